import JvmDerived
import JvmDerived.Pilot.@@N@@Statement
import JvmDerived.Pilot.@@N@@Code
set_option linter.unusedVariables false
set_option linter.unusedSimpArgs false
@@BLOCK:NumsL.lean.txt@@
namespace Jvm.RoadKit
open Sem ClassFile Op Lib Jvm.Stand Jvm.Free Jvm.LawKit
/-- from U the run comes to an end of the invocation at which P holds -/
def Wp (p : Program) (e : Env) (below : List Frame) (P : State → Outcome → Prop) (U : State) : Prop :=
  ∃ s₂ o, Steps p.tables e below U s₂ ∧ s₂.status = .running ∧ Ended s₂ below o ∧ P s₂ o
theorem Wp.of {p : Program} {e : Env} {below : List Frame} {P : State → Outcome → Prop} {U U' : State} (f : ∀ t, Steps p.tables e below U' t → Steps p.tables e below U t) (k : Wp p e below P U') : Wp p e below P U := by
  obtain ⟨s2, o, a, b⟩ := k; exact ⟨s2, o, f _ a, b⟩
theorem Wp.tr {p : Program} {e : Env} {below : List Frame} {P : State → Outcome → Prop} {U U' : State} (f : Steps p.tables e below U U') (k : Wp p e below P U') : Wp p e below P U := by
  obtain ⟨s2, o, a, b⟩ := k; exact ⟨s2, o, f.trans a, b⟩
theorem Wp.cast {p : Program} {e : Env} {below : List Frame} {P : State → Outcome → Prop} {T : State} {g g' : JFrame} (q : g = g') (k : Wp p e below P (T.setTop g')) : Wp p e below P (T.setTop g) := q ▸ k
/-- where the walk stands: the library's Stand, what stays the same throughout a body, the heap, that only new places were written, that the start's cells are as they were -/
def Sd (Z : State) (n0 kk : Nat) (code : ByteArray) (ml : Nat) (own nm : String) (ret : Option FieldType) (h : Heap) (p : Program) (l : Launch) (e : Env) (R : Room) (s : State) (m : MethodId) (args : Array Value) (below : List Frame) (meth : Method) (c : Code) (T : State) (locs : List Loc) (cells slots : Nat) : Prop :=
  Stand p l e R s m args below meth c T locs cells slots ∧ (p.tables.exec = Jvm.exec ∧ c.code = code ∧ c.maxLocals = ml ∧ s.vm.findClass own = some m.cls ∧ Z.Warmed39 s.vm ∧ meth.sig.returnType = ret ∧ meth.name = nm ∧ meth.locks = false) ∧ T.heap = h ∧ Fr n0 locs ∧ Old Z n0 h ∧ kk ≤ h.size
/-- an instruction of n bytes and the pc behind it -/
def Dc (code : ByteArray) (pc : Nat) (i : Instr) (n pc' : Nat) : Prop := decode code pc = .ok (i, n) ∧ pc + n = pc'
/-- a branch of three bytes, its target and the pc behind it -/
def Bc (code : ByteArray) (pc : Nat) (f : Int → Instr) (t pc' : Nat) : Prop := ∃ o, decode code pc = .ok (f o, 3) ∧ 0 ≤ (pc : Int) + o ∧ ((pc : Int) + o).toNat = t ∧ pc + 3 = pc'

section Sd
variable {Z : State} {n0 kk : Nat} {code : ByteArray} {ml : Nat} {own nm : String} {ret : Option FieldType} {h : Heap} {p : Program} {l : Launch} {e : Env} {R : Room} {s : State} {m : MethodId} {args : Array Value} {below : List Frame} {meth : Method} {c : Code} {T : State} {locs : List Loc} {cells slots : Nat} {P : State → Outcome → Prop} {a0 : Array Value}
theorem Sd.st (X : Sd Z n0 kk code ml own nm ret h p l e R s m args below meth c T locs cells slots) : Stand p l e R s m args below meth c T locs cells slots := X.1
theorem Sd.hx (X : Sd Z n0 kk code ml own nm ret h p l e R s m args below meth c T locs cells slots) : p.tables.exec = Jvm.exec := X.2.1.1
theorem Sd.hb (X : Sd Z n0 kk code ml own nm ret h p l e R s m args below meth c T locs cells slots) {pc : Nat} {r : Except DecodeError (Instr × Nat)} (q : decode code pc = r) : decode c.code pc = r := X.2.1.2.1 ▸ q
theorem Sd.hml (X : Sd Z n0 kk code ml own nm ret h p l e R s m args below meth c T locs cells slots) : c.maxLocals = ml := X.2.1.2.2.1
theorem Sd.hown (X : Sd Z n0 kk code ml own nm ret h p l e R s m args below meth c T locs cells slots) : s.vm.findClass own = some m.cls := X.2.1.2.2.2.1
theorem Sd.hZ (X : Sd Z n0 kk code ml own nm ret h p l e R s m args below meth c T locs cells slots) : Z.Warmed39 s.vm := X.2.1.2.2.2.2.1
theorem Sd.hret (X : Sd Z n0 kk code ml own nm ret h p l e R s m args below meth c T locs cells slots) : meth.sig.returnType = ret := X.2.1.2.2.2.2.2.1
theorem Sd.hnm (X : Sd Z n0 kk code ml own nm ret h p l e R s m args below meth c T locs cells slots) : meth.name = nm := X.2.1.2.2.2.2.2.2.1
theorem Sd.hlk (X : Sd Z n0 kk code ml own nm ret h p l e R s m args below meth c T locs cells slots) : meth.locks = false := X.2.1.2.2.2.2.2.2.2
theorem Sd.eh (X : Sd Z n0 kk code ml own nm ret h p l e R s m args below meth c T locs cells slots) : T.heap = h := X.2.2.1
theorem Sd.fr (X : Sd Z n0 kk code ml own nm ret h p l e R s m args below meth c T locs cells slots) : Fr n0 locs := X.2.2.2.1
theorem Sd.old (X : Sd Z n0 kk code ml own nm ret h p l e R s m args below meth c T locs cells slots) : Old Z n0 h := X.2.2.2.2.1
theorem Sd.hkk (X : Sd Z n0 kk code ml own nm ret h p l e R s m args below meth c T locs cells slots) : kk ≤ h.size := X.2.2.2.2.2
theorem Sd.mk' {h' : Heap} {T' : State} {locs' : List Loc} {c' s' : Nat} (X : Sd Z n0 kk code ml own nm ret h p l e R s m args below meth c T locs cells slots) (Y : Stand p l e R s m args below meth c T' locs' c' s') (q1 : T'.heap = h') (q2 : Fr n0 locs') (q3 : Old Z n0 h') (q4 : h.size ≤ h'.size) : Sd Z n0 kk code ml own nm ret h' p l e R s m args below meth c T' locs' c' s' := ⟨Y, X.2.1, q1, q2, q3, Nat.le_trans X.hkk q4⟩
end Sd
section Steps
variable {Z : State} {n0 kk : Nat} {code : ByteArray} {ml : Nat} {own nm : String} {ret : Option FieldType} {h : Heap} {p : Program} {l : Launch} {e : Env} {R : Room} {s : State} {m : MethodId} {args : Array Value} {below : List Frame} {meth : Method} {c : Code} {T : State} {locs : List Loc} {cells slots : Nat} {P : State → Outcome → Prop} {a0 : Array Value} {pc pc' : Nat} {L : Array Slot} {S : List Value}
theorem w_iloadN (X : Sd Z n0 kk code ml own nm ret h p l e R s m args below meth c T locs cells slots) {k : Fin 4} {v : Int32} (hd : Dc code pc (.iload_n k) 1 pc') (hl : L[k.val]? = some (.val (.int v))) (K : Wp p e below P (T.setTop (mkF m pc' L (.int v :: S)))) : Wp p e below P (T.setTop (mkF m pc L S)) := by
  obtain ⟨hd, rfl⟩ := hd
  exact Wp.of (fun _ k => XS.iloadN X.st.here X.hx rfl (X.hb hd) hl k) K
theorem w_iload (X : Sd Z n0 kk code ml own nm ret h p l e R s m args below meth c T locs cells slots) {k : Nat} {v : Int32} (hd : Dc code pc (.iload k) 2 pc') (hl : L[k]? = some (.val (.int v))) (K : Wp p e below P (T.setTop (mkF m pc' L (.int v :: S)))) : Wp p e below P (T.setTop (mkF m pc L S)) := by
  obtain ⟨hd, rfl⟩ := hd
  exact Wp.of (fun _ k => XS.iload X.st.here X.hx rfl (X.hb hd) hl k) K
theorem w_lloadN (X : Sd Z n0 kk code ml own nm ret h p l e R s m args below meth c T locs cells slots) {k : Fin 4} {v : Int64} (hd : Dc code pc (.lload_n k) 1 pc') (hl : L[k.val]? = some (.val (.long v))) (K : Wp p e below P (T.setTop (mkF m pc' L (.long v :: S)))) : Wp p e below P (T.setTop (mkF m pc L S)) := by
  obtain ⟨hd, rfl⟩ := hd
  exact Wp.of (fun _ k => XS.lloadN X.st.here X.hx rfl (X.hb hd) hl k) K
theorem w_lload (X : Sd Z n0 kk code ml own nm ret h p l e R s m args below meth c T locs cells slots) {k : Nat} {v : Int64} (hd : Dc code pc (.lload k) 2 pc') (hl : L[k]? = some (.val (.long v))) (K : Wp p e below P (T.setTop (mkF m pc' L (.long v :: S)))) : Wp p e below P (T.setTop (mkF m pc L S)) := by
  obtain ⟨hd, rfl⟩ := hd
  exact Wp.of (fun _ k => XS.lload X.st.here X.hx rfl (X.hb hd) hl k) K
theorem w_aloadN (X : Sd Z n0 kk code ml own nm ret h p l e R s m args below meth c T locs cells slots) {k : Fin 4} {v : Value} (hd : Dc code pc (.aload_n k) 1 pc') (hl : L[k.val]? = some (.val v)) (hv : v.isRef = true) (K : Wp p e below P (T.setTop (mkF m pc' L (v :: S)))) : Wp p e below P (T.setTop (mkF m pc L S)) := by
  obtain ⟨hd, rfl⟩ := hd
  exact Wp.of (fun _ k => XS.aloadN X.st.here X.hx rfl (X.hb hd) hl hv k) K
theorem w_aload (X : Sd Z n0 kk code ml own nm ret h p l e R s m args below meth c T locs cells slots) {k : Nat} {v : Value} (hd : Dc code pc (.aload k) 2 pc') (hl : L[k]? = some (.val v)) (hv : v.isRef = true) (K : Wp p e below P (T.setTop (mkF m pc' L (v :: S)))) : Wp p e below P (T.setTop (mkF m pc L S)) := by
  obtain ⟨hd, rfl⟩ := hd
  exact Wp.of (fun _ k => XS.aload X.st.here X.hx rfl (X.hb hd) hl hv k) K
theorem w_istoreN (X : Sd Z n0 kk code ml own nm ret h p l e R s m args below meth c T locs cells slots) {k : Fin 4} {v : Int32} (L' : Array Slot) (hd : Dc code pc (.istore_n k) 1 pc') (hl : storeLocals L k.val (.int v) = some L') (K : Wp p e below P (T.setTop (mkF m pc' L' S))) : Wp p e below P (T.setTop (mkF m pc L (.int v :: S))) := by
  obtain ⟨hd, rfl⟩ := hd
  exact Wp.of (fun _ k => XS.istoreN X.st.here X.hx rfl (X.hb hd) rfl hl k) K
theorem w_istore (X : Sd Z n0 kk code ml own nm ret h p l e R s m args below meth c T locs cells slots) {k : Nat} {v : Int32} (L' : Array Slot) (hd : Dc code pc (.istore k) 2 pc') (hl : storeLocals L k (.int v) = some L') (K : Wp p e below P (T.setTop (mkF m pc' L' S))) : Wp p e below P (T.setTop (mkF m pc L (.int v :: S))) := by
  obtain ⟨hd, rfl⟩ := hd
  exact Wp.of (fun _ k => XS.istore X.st.here X.hx rfl (X.hb hd) rfl hl k) K
theorem w_lstoreN (X : Sd Z n0 kk code ml own nm ret h p l e R s m args below meth c T locs cells slots) {k : Fin 4} {v : Int64} (L' : Array Slot) (hd : Dc code pc (.lstore_n k) 1 pc') (hl : storeLocals L k.val (.long v) = some L') (K : Wp p e below P (T.setTop (mkF m pc' L' S))) : Wp p e below P (T.setTop (mkF m pc L (.long v :: S))) := by
  obtain ⟨hd, rfl⟩ := hd
  exact Wp.of (fun _ k => XS.lstoreN X.st.here X.hx rfl (X.hb hd) rfl hl k) K
theorem w_lstore (X : Sd Z n0 kk code ml own nm ret h p l e R s m args below meth c T locs cells slots) {k : Nat} {v : Int64} (L' : Array Slot) (hd : Dc code pc (.lstore k) 2 pc') (hl : storeLocals L k (.long v) = some L') (K : Wp p e below P (T.setTop (mkF m pc' L' S))) : Wp p e below P (T.setTop (mkF m pc L (.long v :: S))) := by
  obtain ⟨hd, rfl⟩ := hd
  exact Wp.of (fun _ k => XS.lstore X.st.here X.hx rfl (X.hb hd) rfl hl k) K
theorem w_astoreN (X : Sd Z n0 kk code ml own nm ret h p l e R s m args below meth c T locs cells slots) {k : Fin 4} {v : Value} (L' : Array Slot) (hd : Dc code pc (.astore_n k) 1 pc') (hv : v.isRef = true) (hl : storeLocals L k.val v = some L') (K : Wp p e below P (T.setTop (mkF m pc' L' S))) : Wp p e below P (T.setTop (mkF m pc L (v :: S))) := by
  obtain ⟨hd, rfl⟩ := hd
  exact Wp.of (fun _ k => XS.astoreN X.st.here X.hx rfl (X.hb hd) rfl hv hl k) K
theorem w_astore (X : Sd Z n0 kk code ml own nm ret h p l e R s m args below meth c T locs cells slots) {k : Nat} {v : Value} (L' : Array Slot) (hd : Dc code pc (.astore k) 2 pc') (hv : v.isRef = true) (hl : storeLocals L k v = some L') (K : Wp p e below P (T.setTop (mkF m pc' L' S))) : Wp p e below P (T.setTop (mkF m pc L (v :: S))) := by
  obtain ⟨hd, rfl⟩ := hd
  exact Wp.of (fun _ k => XS.astore X.st.here X.hx rfl (X.hb hd) rfl hv hl k) K
theorem w_iinc (X : Sd Z n0 kk code ml own nm ret h p l e R s m args below meth c T locs cells slots) {k : Nat} {q : Int} {v : Int32} (z : Int32) (L' : Array Slot) (hd : Dc code pc (.iinc k q) 3 pc') (hq : Int32.ofInt q = z) (hg : L[k]? = some (.val (.int v))) (hl : storeLocals L k (.int (v + z)) = some L') (K : Wp p e below P (T.setTop (mkF m pc' L' S))) : Wp p e below P (T.setTop (mkF m pc L S)) := by
  obtain ⟨hd, rfl⟩ := hd
  exact Wp.of (fun _ k => XS.iinc X.st.here X.hx rfl (X.hb hd) hg (hq ▸ hl) k) K
theorem w_iconst (X : Sd Z n0 kk code ml own nm ret h p l e R s m args below meth c T locs cells slots) {i : Int} (v : Int32) (hd : Dc code pc (.iconst i) 1 pc') (hv : Int32.ofInt i = v) (K : Wp p e below P (T.setTop (mkF m pc' L (.int v :: S)))) : Wp p e below P (T.setTop (mkF m pc L S)) := by
  obtain ⟨hd, rfl⟩ := hd
  exact Wp.of (fun _ k => XS.iconst X.st.here X.hx rfl (X.hb hd) (by rw [hv]; exact k)) K
theorem w_bipush (X : Sd Z n0 kk code ml own nm ret h p l e R s m args below meth c T locs cells slots) {i : Int} (v : Int32) (hd : Dc code pc (.bipush i) 2 pc') (hv : (Int8.ofInt i).toInt32 = v) (K : Wp p e below P (T.setTop (mkF m pc' L (.int v :: S)))) : Wp p e below P (T.setTop (mkF m pc L S)) := by
  obtain ⟨hd, rfl⟩ := hd
  exact Wp.of (fun _ k => XS.bipush X.st.here X.hx rfl (X.hb hd) (by rw [hv]; exact k)) K
theorem w_sipush (X : Sd Z n0 kk code ml own nm ret h p l e R s m args below meth c T locs cells slots) {i : Int} (v : Int32) (hd : Dc code pc (.sipush i) 3 pc') (hv : (Int16.ofInt i).toInt32 = v) (K : Wp p e below P (T.setTop (mkF m pc' L (.int v :: S)))) : Wp p e below P (T.setTop (mkF m pc L S)) := by
  obtain ⟨hd, rfl⟩ := hd
  exact Wp.of (fun _ k => XS.sipush X.st.here X.hx rfl (X.hb hd) (by rw [hv]; exact k)) K
theorem w_lconst (X : Sd Z n0 kk code ml own nm ret h p l e R s m args below meth c T locs cells slots) {i : Fin 2} (v : Int64) (hd : Dc code pc (.lconst i) 1 pc') (hv : Int64.ofNat i = v) (K : Wp p e below P (T.setTop (mkF m pc' L (.long v :: S)))) : Wp p e below P (T.setTop (mkF m pc L S)) := by
  obtain ⟨hd, rfl⟩ := hd
  exact Wp.of (fun _ k => XS.lconst X.st.here X.hx rfl (X.hb hd) (by rw [hv]; exact k)) K
theorem w_aconstNull (X : Sd Z n0 kk code ml own nm ret h p l e R s m args below meth c T locs cells slots)  (hd : Dc code pc (.aconst_null) 1 pc')  (K : Wp p e below P (T.setTop (mkF m pc' L (.null :: S)))) : Wp p e below P (T.setTop (mkF m pc L S)) := by
  obtain ⟨hd, rfl⟩ := hd
  exact Wp.of (fun _ k => XS.aconstNull X.st.here X.hx rfl (X.hb hd) k) K
theorem w_iadd (X : Sd Z n0 kk code ml own nm ret h p l e R s m args below meth c T locs cells slots) {x y : Int32} (hd : Dc code pc (.iadd) 1 pc')  (K : Wp p e below P (T.setTop (mkF m pc' L (.int (x + y) :: S)))) : Wp p e below P (T.setTop (mkF m pc L (.int y :: .int x :: S))) := by
  obtain ⟨hd, rfl⟩ := hd
  exact Wp.of (fun _ k => XS.iadd X.st.here X.hx rfl (X.hb hd) rfl k) K
theorem w_ladd (X : Sd Z n0 kk code ml own nm ret h p l e R s m args below meth c T locs cells slots) {x y : Int64} (hd : Dc code pc (.ladd) 1 pc')  (K : Wp p e below P (T.setTop (mkF m pc' L (.long (x + y) :: S)))) : Wp p e below P (T.setTop (mkF m pc L (.long y :: .long x :: S))) := by
  obtain ⟨hd, rfl⟩ := hd
  exact Wp.of (fun _ k => XS.ladd X.st.here X.hx rfl (X.hb hd) rfl k) K
theorem w_isub (X : Sd Z n0 kk code ml own nm ret h p l e R s m args below meth c T locs cells slots) {x y : Int32} (hd : Dc code pc (.isub) 1 pc')  (K : Wp p e below P (T.setTop (mkF m pc' L (.int (x - y) :: S)))) : Wp p e below P (T.setTop (mkF m pc L (.int y :: .int x :: S))) := by
  obtain ⟨hd, rfl⟩ := hd
  exact Wp.of (fun _ k => XS.isub X.st.here X.hx rfl (X.hb hd) rfl k) K
theorem w_lsub (X : Sd Z n0 kk code ml own nm ret h p l e R s m args below meth c T locs cells slots) {x y : Int64} (hd : Dc code pc (.lsub) 1 pc')  (K : Wp p e below P (T.setTop (mkF m pc' L (.long (x - y) :: S)))) : Wp p e below P (T.setTop (mkF m pc L (.long y :: .long x :: S))) := by
  obtain ⟨hd, rfl⟩ := hd
  exact Wp.of (fun _ k => XS.lsub X.st.here X.hx rfl (X.hb hd) rfl k) K
theorem w_imul (X : Sd Z n0 kk code ml own nm ret h p l e R s m args below meth c T locs cells slots) {x y : Int32} (hd : Dc code pc (.imul) 1 pc')  (K : Wp p e below P (T.setTop (mkF m pc' L (.int (x * y) :: S)))) : Wp p e below P (T.setTop (mkF m pc L (.int y :: .int x :: S))) := by
  obtain ⟨hd, rfl⟩ := hd
  exact Wp.of (fun _ k => XS.imul X.st.here X.hx rfl (X.hb hd) rfl k) K
theorem w_lmul (X : Sd Z n0 kk code ml own nm ret h p l e R s m args below meth c T locs cells slots) {x y : Int64} (hd : Dc code pc (.lmul) 1 pc')  (K : Wp p e below P (T.setTop (mkF m pc' L (.long (x * y) :: S)))) : Wp p e below P (T.setTop (mkF m pc L (.long y :: .long x :: S))) := by
  obtain ⟨hd, rfl⟩ := hd
  exact Wp.of (fun _ k => XS.lmul X.st.here X.hx rfl (X.hb hd) rfl k) K
theorem w_iand (X : Sd Z n0 kk code ml own nm ret h p l e R s m args below meth c T locs cells slots) {x y : Int32} (hd : Dc code pc (.iand) 1 pc')  (K : Wp p e below P (T.setTop (mkF m pc' L (.int (x &&& y) :: S)))) : Wp p e below P (T.setTop (mkF m pc L (.int y :: .int x :: S))) := by
  obtain ⟨hd, rfl⟩ := hd
  exact Wp.of (fun _ k => XS.iand X.st.here X.hx rfl (X.hb hd) rfl k) K
theorem w_land (X : Sd Z n0 kk code ml own nm ret h p l e R s m args below meth c T locs cells slots) {x y : Int64} (hd : Dc code pc (.land) 1 pc')  (K : Wp p e below P (T.setTop (mkF m pc' L (.long (x &&& y) :: S)))) : Wp p e below P (T.setTop (mkF m pc L (.long y :: .long x :: S))) := by
  obtain ⟨hd, rfl⟩ := hd
  exact Wp.of (fun _ k => XS.land X.st.here X.hx rfl (X.hb hd) rfl k) K
theorem w_ior (X : Sd Z n0 kk code ml own nm ret h p l e R s m args below meth c T locs cells slots) {x y : Int32} (hd : Dc code pc (.ior) 1 pc')  (K : Wp p e below P (T.setTop (mkF m pc' L (.int (x ||| y) :: S)))) : Wp p e below P (T.setTop (mkF m pc L (.int y :: .int x :: S))) := by
  obtain ⟨hd, rfl⟩ := hd
  exact Wp.of (fun _ k => XS.ior X.st.here X.hx rfl (X.hb hd) rfl k) K
theorem w_lor (X : Sd Z n0 kk code ml own nm ret h p l e R s m args below meth c T locs cells slots) {x y : Int64} (hd : Dc code pc (.lor) 1 pc')  (K : Wp p e below P (T.setTop (mkF m pc' L (.long (x ||| y) :: S)))) : Wp p e below P (T.setTop (mkF m pc L (.long y :: .long x :: S))) := by
  obtain ⟨hd, rfl⟩ := hd
  exact Wp.of (fun _ k => XS.lor X.st.here X.hx rfl (X.hb hd) rfl k) K
theorem w_ixor (X : Sd Z n0 kk code ml own nm ret h p l e R s m args below meth c T locs cells slots) {x y : Int32} (hd : Dc code pc (.ixor) 1 pc')  (K : Wp p e below P (T.setTop (mkF m pc' L (.int (x ^^^ y) :: S)))) : Wp p e below P (T.setTop (mkF m pc L (.int y :: .int x :: S))) := by
  obtain ⟨hd, rfl⟩ := hd
  exact Wp.of (fun _ k => XS.ixor X.st.here X.hx rfl (X.hb hd) rfl k) K
theorem w_lxor (X : Sd Z n0 kk code ml own nm ret h p l e R s m args below meth c T locs cells slots) {x y : Int64} (hd : Dc code pc (.lxor) 1 pc')  (K : Wp p e below P (T.setTop (mkF m pc' L (.long (x ^^^ y) :: S)))) : Wp p e below P (T.setTop (mkF m pc L (.long y :: .long x :: S))) := by
  obtain ⟨hd, rfl⟩ := hd
  exact Wp.of (fun _ k => XS.lxor X.st.here X.hx rfl (X.hb hd) rfl k) K
theorem w_ineg (X : Sd Z n0 kk code ml own nm ret h p l e R s m args below meth c T locs cells slots) {x : Int32} (hd : Dc code pc (.ineg) 1 pc')  (K : Wp p e below P (T.setTop (mkF m pc' L (.int (-x) :: S)))) : Wp p e below P (T.setTop (mkF m pc L (.int x :: S))) := by
  obtain ⟨hd, rfl⟩ := hd
  exact Wp.of (fun _ k => XS.ineg X.st.here X.hx rfl (X.hb hd) rfl k) K
theorem w_lneg (X : Sd Z n0 kk code ml own nm ret h p l e R s m args below meth c T locs cells slots) {x : Int64} (hd : Dc code pc (.lneg) 1 pc')  (K : Wp p e below P (T.setTop (mkF m pc' L (.long (-x) :: S)))) : Wp p e below P (T.setTop (mkF m pc L (.long x :: S))) := by
  obtain ⟨hd, rfl⟩ := hd
  exact Wp.of (fun _ k => XS.lneg X.st.here X.hx rfl (X.hb hd) rfl k) K
theorem w_idiv (X : Sd Z n0 kk code ml own nm ret h p l e R s m args below meth c T locs cells slots) {x y : Int32} (hd : Dc code pc (.idiv) 1 pc') (hy : ¬ y = 0) (K : Wp p e below P (T.setTop (mkF m pc' L (.int (x / y) :: S)))) : Wp p e below P (T.setTop (mkF m pc L (.int y :: .int x :: S))) := by
  obtain ⟨hd, rfl⟩ := hd
  exact Wp.of (fun _ k => XS.idiv X.st.here X.hx rfl (X.hb hd) rfl hy k) K
theorem w_ldiv (X : Sd Z n0 kk code ml own nm ret h p l e R s m args below meth c T locs cells slots) {x y : Int64} (hd : Dc code pc (.ldiv) 1 pc') (hy : ¬ y = 0) (K : Wp p e below P (T.setTop (mkF m pc' L (.long (x / y) :: S)))) : Wp p e below P (T.setTop (mkF m pc L (.long y :: .long x :: S))) := by
  obtain ⟨hd, rfl⟩ := hd
  exact Wp.of (fun _ k => XS.ldiv X.st.here X.hx rfl (X.hb hd) rfl hy k) K
theorem own_irem (x y : Int32) : x - (x / y) * y = x % y := by
  apply Int32.toInt_inj.mp
  have h1 := Int32.le_toInt (x % y)
  have h2 := Int32.toInt_lt (x % y)
  rw [Int32.toInt_mod] at h1 h2 ⊢
  rw [Int32.toInt_sub, Int32.toInt_mul, Int32.toInt_div, Int.bmod_mul_bmod, Int.sub_bmod_bmod]
  have e : x.toInt - x.toInt.tdiv y.toInt * y.toInt = x.toInt.tmod y.toInt := by rw [Int.mul_comm]; exact (Int.tmod_def _ _).symm
  rw [e, Int.bmod_eq_of_le (by omega) (by omega)]
theorem w_irem (X : Sd Z n0 kk code ml own nm ret h p l e R s m args below meth c T locs cells slots) {x y : Int32} (hd : Dc code pc (.irem) 1 pc') (hy : ¬ y = 0) (K : Wp p e below P (T.setTop (mkF m pc' L (.int (x % y) :: S)))) : Wp p e below P (T.setTop (mkF m pc L (.int y :: .int x :: S))) := by
  obtain ⟨hd, rfl⟩ := hd
  exact Wp.of (fun _ k => XS.irem X.st.here X.hx rfl (X.hb hd) rfl hy (by rw [own_irem]; exact k)) K
theorem w_lrem (X : Sd Z n0 kk code ml own nm ret h p l e R s m args below meth c T locs cells slots) {x y : Int64} (hd : Dc code pc (.lrem) 1 pc') (hy : ¬ y = 0) (K : Wp p e below P (T.setTop (mkF m pc' L (.long (x % y) :: S)))) : Wp p e below P (T.setTop (mkF m pc L (.long y :: .long x :: S))) := by
  obtain ⟨hd, rfl⟩ := hd
  exact Wp.of (fun _ k => XS.lrem X.st.here X.hx rfl (X.hb hd) rfl hy (by rw [lrem_mod]; exact k)) K
theorem w_ishl (X : Sd Z n0 kk code ml own nm ret h p l e R s m args below meth c T locs cells slots) {x y : Int32} (hd : Dc code pc (.ishl) 1 pc')  (K : Wp p e below P (T.setTop (mkF m pc' L (.int (x <<< (y &&& 31)) :: S)))) : Wp p e below P (T.setTop (mkF m pc L (.int y :: .int x :: S))) := by
  obtain ⟨hd, rfl⟩ := hd
  exact Wp.of (fun _ k => XS.ishl X.st.here X.hx rfl (X.hb hd) rfl k) K
theorem w_ishr (X : Sd Z n0 kk code ml own nm ret h p l e R s m args below meth c T locs cells slots) {x y : Int32} (hd : Dc code pc (.ishr) 1 pc')  (K : Wp p e below P (T.setTop (mkF m pc' L (.int (x >>> (y &&& 31)) :: S)))) : Wp p e below P (T.setTop (mkF m pc L (.int y :: .int x :: S))) := by
  obtain ⟨hd, rfl⟩ := hd
  exact Wp.of (fun _ k => XS.ishr X.st.here X.hx rfl (X.hb hd) rfl k) K
theorem w_iushr (X : Sd Z n0 kk code ml own nm ret h p l e R s m args below meth c T locs cells slots) {x y : Int32} (hd : Dc code pc (.iushr) 1 pc')  (K : Wp p e below P (T.setTop (mkF m pc' L (.int ((x.toUInt32 >>> (y &&& 31).toUInt32).toInt32) :: S)))) : Wp p e below P (T.setTop (mkF m pc L (.int y :: .int x :: S))) := by
  obtain ⟨hd, rfl⟩ := hd
  exact Wp.of (fun _ k => XS.iushr X.st.here X.hx rfl (X.hb hd) rfl k) K
theorem w_lshl (X : Sd Z n0 kk code ml own nm ret h p l e R s m args below meth c T locs cells slots) {x : Int64} {y : Int32} (hd : Dc code pc (.lshl) 1 pc')  (K : Wp p e below P (T.setTop (mkF m pc' L (.long (x <<< (y &&& 0x3f).toInt64) :: S)))) : Wp p e below P (T.setTop (mkF m pc L (.int y :: .long x :: S))) := by
  obtain ⟨hd, rfl⟩ := hd
  exact Wp.of (fun _ k => XS.lshl X.st.here X.hx rfl (X.hb hd) rfl k) K
theorem w_lshr (X : Sd Z n0 kk code ml own nm ret h p l e R s m args below meth c T locs cells slots) {x : Int64} {y : Int32} (hd : Dc code pc (.lshr) 1 pc')  (K : Wp p e below P (T.setTop (mkF m pc' L (.long (x >>> (y &&& 0x3f).toInt64) :: S)))) : Wp p e below P (T.setTop (mkF m pc L (.int y :: .long x :: S))) := by
  obtain ⟨hd, rfl⟩ := hd
  exact Wp.of (fun _ k => XS.lshr X.st.here X.hx rfl (X.hb hd) rfl k) K
theorem w_lushr (X : Sd Z n0 kk code ml own nm ret h p l e R s m args below meth c T locs cells slots) {x : Int64} {y : Int32} (hd : Dc code pc (.lushr) 1 pc')  (K : Wp p e below P (T.setTop (mkF m pc' L (.long ((x.toUInt64 >>> (y &&& 0x3f).toInt64.toUInt64).toInt64) :: S)))) : Wp p e below P (T.setTop (mkF m pc L (.int y :: .long x :: S))) := by
  obtain ⟨hd, rfl⟩ := hd
  exact Wp.of (fun _ k => XS.lushr X.st.here X.hx rfl (X.hb hd) rfl k) K
theorem w_i2l (X : Sd Z n0 kk code ml own nm ret h p l e R s m args below meth c T locs cells slots) {x : Int32} (hd : Dc code pc (.i2l) 1 pc')  (K : Wp p e below P (T.setTop (mkF m pc' L (.long (x.toInt64) :: S)))) : Wp p e below P (T.setTop (mkF m pc L (.int x :: S))) := by
  obtain ⟨hd, rfl⟩ := hd
  exact Wp.of (fun _ k => XS.i2l X.st.here X.hx rfl (X.hb hd) rfl k) K
theorem w_i2b (X : Sd Z n0 kk code ml own nm ret h p l e R s m args below meth c T locs cells slots) {x : Int32} (hd : Dc code pc (.i2b) 1 pc')  (K : Wp p e below P (T.setTop (mkF m pc' L (.int (x.toInt8.toInt32) :: S)))) : Wp p e below P (T.setTop (mkF m pc L (.int x :: S))) := by
  obtain ⟨hd, rfl⟩ := hd
  exact Wp.of (fun _ k => XS.i2b X.st.here X.hx rfl (X.hb hd) rfl k) K
theorem w_i2s (X : Sd Z n0 kk code ml own nm ret h p l e R s m args below meth c T locs cells slots) {x : Int32} (hd : Dc code pc (.i2s) 1 pc')  (K : Wp p e below P (T.setTop (mkF m pc' L (.int (x.toInt16.toInt32) :: S)))) : Wp p e below P (T.setTop (mkF m pc L (.int x :: S))) := by
  obtain ⟨hd, rfl⟩ := hd
  exact Wp.of (fun _ k => XS.i2s X.st.here X.hx rfl (X.hb hd) rfl k) K
theorem w_i2c (X : Sd Z n0 kk code ml own nm ret h p l e R s m args below meth c T locs cells slots) {x : Int32} (hd : Dc code pc (.i2c) 1 pc')  (K : Wp p e below P (T.setTop (mkF m pc' L (.int (x.toUInt32.toUInt16.toUInt32.toInt32) :: S)))) : Wp p e below P (T.setTop (mkF m pc L (.int x :: S))) := by
  obtain ⟨hd, rfl⟩ := hd
  exact Wp.of (fun _ k => XS.i2c X.st.here X.hx rfl (X.hb hd) rfl k) K
theorem w_l2i (X : Sd Z n0 kk code ml own nm ret h p l e R s m args below meth c T locs cells slots) {x : Int64} (hd : Dc code pc (.l2i) 1 pc')  (K : Wp p e below P (T.setTop (mkF m pc' L (.int (x.toInt32) :: S)))) : Wp p e below P (T.setTop (mkF m pc L (.long x :: S))) := by
  obtain ⟨hd, rfl⟩ := hd
  exact Wp.of (fun _ k => XS.l2i X.st.here X.hx rfl (X.hb hd) rfl k) K
theorem w_lcmp (X : Sd Z n0 kk code ml own nm ret h p l e R s m args below meth c T locs cells slots) {x y : Int64} (hd : Dc code pc (.lcmp) 1 pc')  (K : Wp p e below P (T.setTop (mkF m pc' L (.int (lcmpW x y) :: S)))) : Wp p e below P (T.setTop (mkF m pc L (.long y :: .long x :: S))) := by
  obtain ⟨hd, rfl⟩ := hd
  exact Wp.of (fun _ k => XS.lcmp X.st.here X.hx rfl (X.hb hd) rfl k) K
theorem w_dup (X : Sd Z n0 kk code ml own nm ret h p l e R s m args below meth c T locs cells slots) {x : Value} (hd : Dc code pc (.dup) 1 pc') (hc : x.category = 1) (K : Wp p e below P (T.setTop (mkF m pc' L (x :: x :: S)))) : Wp p e below P (T.setTop (mkF m pc L (x :: S))) := by
  obtain ⟨hd, rfl⟩ := hd
  exact Wp.of (fun _ k => XS.dup X.st.here X.hx rfl (X.hb hd) rfl hc k) K
theorem w_dup2 (X : Sd Z n0 kk code ml own nm ret h p l e R s m args below meth c T locs cells slots) {x y : Value} (hd : Dc code pc (.dup2) 1 pc') (hc : x.category = 1) (hc' : y.category = 1) (K : Wp p e below P (T.setTop (mkF m pc' L (x :: y :: x :: y :: S)))) : Wp p e below P (T.setTop (mkF m pc L (x :: y :: S))) := by
  obtain ⟨hd, rfl⟩ := hd
  exact Wp.of (fun _ k => XT.dup2 X.st.here X.hx rfl (X.hb hd) rfl hc hc' k) K
theorem w_dup2L (X : Sd Z n0 kk code ml own nm ret h p l e R s m args below meth c T locs cells slots) {x : Int64} (hd : Dc code pc (.dup2) 1 pc')  (K : Wp p e below P (T.setTop (mkF m pc' L (.long x :: .long x :: S)))) : Wp p e below P (T.setTop (mkF m pc L (.long x :: S))) := by
  obtain ⟨hd, rfl⟩ := hd
  exact Wp.of (fun _ k => XT.dup2L X.st.here X.hx rfl (X.hb hd) rfl k) K
theorem w_dupX1 (X : Sd Z n0 kk code ml own nm ret h p l e R s m args below meth c T locs cells slots) {x y : Value} (hd : Dc code pc (.dup_x1) 1 pc') (hc : x.category = 1) (hc' : y.category = 1) (K : Wp p e below P (T.setTop (mkF m pc' L (x :: y :: x :: S)))) : Wp p e below P (T.setTop (mkF m pc L (x :: y :: S))) := by
  obtain ⟨hd, rfl⟩ := hd
  exact Wp.of (fun _ k => XS.dupX1 X.st.here X.hx rfl (X.hb hd) rfl hc hc' k) K
theorem w_pop (X : Sd Z n0 kk code ml own nm ret h p l e R s m args below meth c T locs cells slots) {x : Value} (hd : Dc code pc (.pop) 1 pc') (hc : x.category = 1) (K : Wp p e below P (T.setTop (mkF m pc' L S))) : Wp p e below P (T.setTop (mkF m pc L (x :: S))) := by
  obtain ⟨hd, rfl⟩ := hd
  exact Wp.of (fun _ k => XS.pop X.st.here X.hx rfl (X.hb hd) rfl hc k) K
theorem w_goto (X : Sd Z n0 kk code ml own nm ret h p l e R s m args below meth c T locs cells slots) {t : Nat} (hd : Bc code pc .goto t pc') (K : Wp p e below P (T.setTop (mkF m t L S))) : Wp p e below P (T.setTop (mkF m pc L S)) := by
  obtain ⟨o, hd, h1, h2, -⟩ := hd
  exact Wp.of (fun _ k => XS.goto X.st.here X.hx rfl (pc0 := pc) rfl (X.hb hd) h1 h2 k) K
theorem w_ifeq (X : Sd Z n0 kk code ml own nm ret h p l e R s m args below meth c T locs cells slots) {x : Int32} {t : Nat} (hd : Bc code pc (.ifCond .eq) t pc') (K1 : x = 0 → Wp p e below P (T.setTop (mkF m t L S))) (K2 : ¬ x = 0 → Wp p e below P (T.setTop (mkF m pc' L S))) : Wp p e below P (T.setTop (mkF m pc L (.int x :: S))) := by
  obtain ⟨o, hd, h1, h2, rfl⟩ := hd
  by_cases q : ifCond.holds .eq x = true
  · exact Wp.of (fun _ k => XS.ifYes X.st.here X.hx rfl (pc0 := pc) rfl (X.hb hd) rfl q h1 h2 k) (K1 (by simpa [ifCond.holds, Int32.not_lt] using q))
  · exact Wp.of (fun _ k => XS.ifNo X.st.here X.hx rfl (X.hb hd) rfl (by simpa using q) k) (K2 (by simpa [ifCond.holds, Int32.not_lt] using q))
theorem w_icmpeq (X : Sd Z n0 kk code ml own nm ret h p l e R s m args below meth c T locs cells slots) {x y : Int32} {t : Nat} (hd : Bc code pc (.if_icmp .eq) t pc') (K1 : x = y → Wp p e below P (T.setTop (mkF m t L S))) (K2 : ¬ x = y → Wp p e below P (T.setTop (mkF m pc' L S))) : Wp p e below P (T.setTop (mkF m pc L (.int y :: .int x :: S))) := by
  obtain ⟨o, hd, h1, h2, rfl⟩ := hd
  by_cases q : if_icmp.holds .eq x y = true
  · exact Wp.of (fun _ k => XS.icmpYes X.st.here X.hx rfl (pc0 := pc) rfl (X.hb hd) rfl q h1 h2 k) (K1 (by simpa [if_icmp.holds, Int32.not_lt] using q))
  · exact Wp.of (fun _ k => XS.icmpNo X.st.here X.hx rfl (X.hb hd) rfl (by simpa using q) k) (K2 (by simpa [if_icmp.holds, Int32.not_lt] using q))
theorem w_ifne (X : Sd Z n0 kk code ml own nm ret h p l e R s m args below meth c T locs cells slots) {x : Int32} {t : Nat} (hd : Bc code pc (.ifCond .ne) t pc') (K1 : ¬ x = 0 → Wp p e below P (T.setTop (mkF m t L S))) (K2 : x = 0 → Wp p e below P (T.setTop (mkF m pc' L S))) : Wp p e below P (T.setTop (mkF m pc L (.int x :: S))) := by
  obtain ⟨o, hd, h1, h2, rfl⟩ := hd
  by_cases q : ifCond.holds .ne x = true
  · exact Wp.of (fun _ k => XS.ifYes X.st.here X.hx rfl (pc0 := pc) rfl (X.hb hd) rfl q h1 h2 k) (K1 (by simpa [ifCond.holds, Int32.not_lt] using q))
  · exact Wp.of (fun _ k => XS.ifNo X.st.here X.hx rfl (X.hb hd) rfl (by simpa using q) k) (K2 (by simpa [ifCond.holds, Int32.not_lt] using q))
theorem w_icmpne (X : Sd Z n0 kk code ml own nm ret h p l e R s m args below meth c T locs cells slots) {x y : Int32} {t : Nat} (hd : Bc code pc (.if_icmp .ne) t pc') (K1 : ¬ x = y → Wp p e below P (T.setTop (mkF m t L S))) (K2 : x = y → Wp p e below P (T.setTop (mkF m pc' L S))) : Wp p e below P (T.setTop (mkF m pc L (.int y :: .int x :: S))) := by
  obtain ⟨o, hd, h1, h2, rfl⟩ := hd
  by_cases q : if_icmp.holds .ne x y = true
  · exact Wp.of (fun _ k => XS.icmpYes X.st.here X.hx rfl (pc0 := pc) rfl (X.hb hd) rfl q h1 h2 k) (K1 (by simpa [if_icmp.holds, Int32.not_lt] using q))
  · exact Wp.of (fun _ k => XS.icmpNo X.st.here X.hx rfl (X.hb hd) rfl (by simpa using q) k) (K2 (by simpa [if_icmp.holds, Int32.not_lt] using q))
theorem w_iflt (X : Sd Z n0 kk code ml own nm ret h p l e R s m args below meth c T locs cells slots) {x : Int32} {t : Nat} (hd : Bc code pc (.ifCond .lt) t pc') (K1 : x < 0 → Wp p e below P (T.setTop (mkF m t L S))) (K2 : ¬ x < 0 → Wp p e below P (T.setTop (mkF m pc' L S))) : Wp p e below P (T.setTop (mkF m pc L (.int x :: S))) := by
  obtain ⟨o, hd, h1, h2, rfl⟩ := hd
  by_cases q : ifCond.holds .lt x = true
  · exact Wp.of (fun _ k => XS.ifYes X.st.here X.hx rfl (pc0 := pc) rfl (X.hb hd) rfl q h1 h2 k) (K1 (by simpa [ifCond.holds, Int32.not_lt] using q))
  · exact Wp.of (fun _ k => XS.ifNo X.st.here X.hx rfl (X.hb hd) rfl (by simpa using q) k) (K2 (by simpa [ifCond.holds, Int32.not_lt] using q))
theorem w_icmplt (X : Sd Z n0 kk code ml own nm ret h p l e R s m args below meth c T locs cells slots) {x y : Int32} {t : Nat} (hd : Bc code pc (.if_icmp .lt) t pc') (K1 : x < y → Wp p e below P (T.setTop (mkF m t L S))) (K2 : ¬ x < y → Wp p e below P (T.setTop (mkF m pc' L S))) : Wp p e below P (T.setTop (mkF m pc L (.int y :: .int x :: S))) := by
  obtain ⟨o, hd, h1, h2, rfl⟩ := hd
  by_cases q : if_icmp.holds .lt x y = true
  · exact Wp.of (fun _ k => XS.icmpYes X.st.here X.hx rfl (pc0 := pc) rfl (X.hb hd) rfl q h1 h2 k) (K1 (by simpa [if_icmp.holds, Int32.not_lt] using q))
  · exact Wp.of (fun _ k => XS.icmpNo X.st.here X.hx rfl (X.hb hd) rfl (by simpa using q) k) (K2 (by simpa [if_icmp.holds, Int32.not_lt] using q))
theorem w_ifge (X : Sd Z n0 kk code ml own nm ret h p l e R s m args below meth c T locs cells slots) {x : Int32} {t : Nat} (hd : Bc code pc (.ifCond .ge) t pc') (K1 : ¬ x < 0 → Wp p e below P (T.setTop (mkF m t L S))) (K2 : x < 0 → Wp p e below P (T.setTop (mkF m pc' L S))) : Wp p e below P (T.setTop (mkF m pc L (.int x :: S))) := by
  obtain ⟨o, hd, h1, h2, rfl⟩ := hd
  by_cases q : ifCond.holds .ge x = true
  · exact Wp.of (fun _ k => XS.ifYes X.st.here X.hx rfl (pc0 := pc) rfl (X.hb hd) rfl q h1 h2 k) (K1 (by simpa [ifCond.holds, Int32.not_lt] using q))
  · exact Wp.of (fun _ k => XS.ifNo X.st.here X.hx rfl (X.hb hd) rfl (by simpa using q) k) (K2 (by simpa [ifCond.holds, Int32.not_lt] using q))
theorem w_icmpge (X : Sd Z n0 kk code ml own nm ret h p l e R s m args below meth c T locs cells slots) {x y : Int32} {t : Nat} (hd : Bc code pc (.if_icmp .ge) t pc') (K1 : ¬ x < y → Wp p e below P (T.setTop (mkF m t L S))) (K2 : x < y → Wp p e below P (T.setTop (mkF m pc' L S))) : Wp p e below P (T.setTop (mkF m pc L (.int y :: .int x :: S))) := by
  obtain ⟨o, hd, h1, h2, rfl⟩ := hd
  by_cases q : if_icmp.holds .ge x y = true
  · exact Wp.of (fun _ k => XS.icmpYes X.st.here X.hx rfl (pc0 := pc) rfl (X.hb hd) rfl q h1 h2 k) (K1 (by simpa [if_icmp.holds, Int32.not_lt] using q))
  · exact Wp.of (fun _ k => XS.icmpNo X.st.here X.hx rfl (X.hb hd) rfl (by simpa using q) k) (K2 (by simpa [if_icmp.holds, Int32.not_lt] using q))
theorem w_ifgt (X : Sd Z n0 kk code ml own nm ret h p l e R s m args below meth c T locs cells slots) {x : Int32} {t : Nat} (hd : Bc code pc (.ifCond .gt) t pc') (K1 : 0 < x → Wp p e below P (T.setTop (mkF m t L S))) (K2 : ¬ 0 < x → Wp p e below P (T.setTop (mkF m pc' L S))) : Wp p e below P (T.setTop (mkF m pc L (.int x :: S))) := by
  obtain ⟨o, hd, h1, h2, rfl⟩ := hd
  by_cases q : ifCond.holds .gt x = true
  · exact Wp.of (fun _ k => XS.ifYes X.st.here X.hx rfl (pc0 := pc) rfl (X.hb hd) rfl q h1 h2 k) (K1 (by simpa [ifCond.holds, Int32.not_lt] using q))
  · exact Wp.of (fun _ k => XS.ifNo X.st.here X.hx rfl (X.hb hd) rfl (by simpa using q) k) (K2 (by simpa [ifCond.holds, Int32.not_lt] using q))
theorem w_icmpgt (X : Sd Z n0 kk code ml own nm ret h p l e R s m args below meth c T locs cells slots) {x y : Int32} {t : Nat} (hd : Bc code pc (.if_icmp .gt) t pc') (K1 : y < x → Wp p e below P (T.setTop (mkF m t L S))) (K2 : ¬ y < x → Wp p e below P (T.setTop (mkF m pc' L S))) : Wp p e below P (T.setTop (mkF m pc L (.int y :: .int x :: S))) := by
  obtain ⟨o, hd, h1, h2, rfl⟩ := hd
  by_cases q : if_icmp.holds .gt x y = true
  · exact Wp.of (fun _ k => XS.icmpYes X.st.here X.hx rfl (pc0 := pc) rfl (X.hb hd) rfl q h1 h2 k) (K1 (by simpa [if_icmp.holds, Int32.not_lt] using q))
  · exact Wp.of (fun _ k => XS.icmpNo X.st.here X.hx rfl (X.hb hd) rfl (by simpa using q) k) (K2 (by simpa [if_icmp.holds, Int32.not_lt] using q))
theorem w_ifle (X : Sd Z n0 kk code ml own nm ret h p l e R s m args below meth c T locs cells slots) {x : Int32} {t : Nat} (hd : Bc code pc (.ifCond .le) t pc') (K1 : ¬ 0 < x → Wp p e below P (T.setTop (mkF m t L S))) (K2 : 0 < x → Wp p e below P (T.setTop (mkF m pc' L S))) : Wp p e below P (T.setTop (mkF m pc L (.int x :: S))) := by
  obtain ⟨o, hd, h1, h2, rfl⟩ := hd
  by_cases q : ifCond.holds .le x = true
  · exact Wp.of (fun _ k => XS.ifYes X.st.here X.hx rfl (pc0 := pc) rfl (X.hb hd) rfl q h1 h2 k) (K1 (by simpa [ifCond.holds, Int32.not_lt] using q))
  · exact Wp.of (fun _ k => XS.ifNo X.st.here X.hx rfl (X.hb hd) rfl (by simpa using q) k) (K2 (by simpa [ifCond.holds, Int32.not_lt] using q))
theorem w_icmple (X : Sd Z n0 kk code ml own nm ret h p l e R s m args below meth c T locs cells slots) {x y : Int32} {t : Nat} (hd : Bc code pc (.if_icmp .le) t pc') (K1 : ¬ y < x → Wp p e below P (T.setTop (mkF m t L S))) (K2 : y < x → Wp p e below P (T.setTop (mkF m pc' L S))) : Wp p e below P (T.setTop (mkF m pc L (.int y :: .int x :: S))) := by
  obtain ⟨o, hd, h1, h2, rfl⟩ := hd
  by_cases q : if_icmp.holds .le x y = true
  · exact Wp.of (fun _ k => XS.icmpYes X.st.here X.hx rfl (pc0 := pc) rfl (X.hb hd) rfl q h1 h2 k) (K1 (by simpa [if_icmp.holds, Int32.not_lt] using q))
  · exact Wp.of (fun _ k => XS.icmpNo X.st.here X.hx rfl (X.hb hd) rfl (by simpa using q) k) (K2 (by simpa [if_icmp.holds, Int32.not_lt] using q))
theorem own_lc (x y : Int64) : (lcmpW x y < 0 ↔ x < y) ∧ (0 < lcmpW x y ↔ y < x) ∧ (lcmpW x y = 0 ↔ x = y) := by rw [lcW]; exact ⟨lc_lt x y, lc_gt x y, lc_eq x y⟩
theorem w_leq (X : Sd Z n0 kk code ml own nm ret h p l e R s m args below meth c T locs cells slots) {x y : Int64} {t pc1 : Nat} (hd : Dc code pc .lcmp 1 pc1) (hd2 : Bc code pc1 (.ifCond .eq) t pc') (K1 : x = y → Wp p e below P (T.setTop (mkF m t L S))) (K2 : ¬ x = y → Wp p e below P (T.setTop (mkF m pc' L S))) : Wp p e below P (T.setTop (mkF m pc L (.long y :: .long x :: S))) :=
  w_lcmp X hd (w_ifeq X hd2 (fun q => K1 ((own_lc x y).2.2.mp q)) (fun q => K2 (fun r => q ((own_lc x y).2.2.mpr r))))
theorem w_lne (X : Sd Z n0 kk code ml own nm ret h p l e R s m args below meth c T locs cells slots) {x y : Int64} {t pc1 : Nat} (hd : Dc code pc .lcmp 1 pc1) (hd2 : Bc code pc1 (.ifCond .ne) t pc') (K1 : ¬ x = y → Wp p e below P (T.setTop (mkF m t L S))) (K2 : x = y → Wp p e below P (T.setTop (mkF m pc' L S))) : Wp p e below P (T.setTop (mkF m pc L (.long y :: .long x :: S))) :=
  w_lcmp X hd (w_ifne X hd2 (fun q => K1 (fun r => q ((own_lc x y).2.2.mpr r))) (fun q => K2 ((own_lc x y).2.2.mp q)))
theorem w_llt (X : Sd Z n0 kk code ml own nm ret h p l e R s m args below meth c T locs cells slots) {x y : Int64} {t pc1 : Nat} (hd : Dc code pc .lcmp 1 pc1) (hd2 : Bc code pc1 (.ifCond .lt) t pc') (K1 : x < y → Wp p e below P (T.setTop (mkF m t L S))) (K2 : ¬ x < y → Wp p e below P (T.setTop (mkF m pc' L S))) : Wp p e below P (T.setTop (mkF m pc L (.long y :: .long x :: S))) :=
  w_lcmp X hd (w_iflt X hd2 (fun q => K1 ((own_lc x y).1.mp q)) (fun q => K2 (fun r => q ((own_lc x y).1.mpr r))))
theorem w_lge (X : Sd Z n0 kk code ml own nm ret h p l e R s m args below meth c T locs cells slots) {x y : Int64} {t pc1 : Nat} (hd : Dc code pc .lcmp 1 pc1) (hd2 : Bc code pc1 (.ifCond .ge) t pc') (K1 : ¬ x < y → Wp p e below P (T.setTop (mkF m t L S))) (K2 : x < y → Wp p e below P (T.setTop (mkF m pc' L S))) : Wp p e below P (T.setTop (mkF m pc L (.long y :: .long x :: S))) :=
  w_lcmp X hd (w_ifge X hd2 (fun q => K1 (fun r => q ((own_lc x y).1.mpr r))) (fun q => K2 ((own_lc x y).1.mp q)))
theorem w_lgt (X : Sd Z n0 kk code ml own nm ret h p l e R s m args below meth c T locs cells slots) {x y : Int64} {t pc1 : Nat} (hd : Dc code pc .lcmp 1 pc1) (hd2 : Bc code pc1 (.ifCond .gt) t pc') (K1 : y < x → Wp p e below P (T.setTop (mkF m t L S))) (K2 : ¬ y < x → Wp p e below P (T.setTop (mkF m pc' L S))) : Wp p e below P (T.setTop (mkF m pc L (.long y :: .long x :: S))) :=
  w_lcmp X hd (w_ifgt X hd2 (fun q => K1 ((own_lc x y).2.1.mp q)) (fun q => K2 (fun r => q ((own_lc x y).2.1.mpr r))))
theorem w_lle (X : Sd Z n0 kk code ml own nm ret h p l e R s m args below meth c T locs cells slots) {x y : Int64} {t pc1 : Nat} (hd : Dc code pc .lcmp 1 pc1) (hd2 : Bc code pc1 (.ifCond .le) t pc') (K1 : ¬ y < x → Wp p e below P (T.setTop (mkF m t L S))) (K2 : y < x → Wp p e below P (T.setTop (mkF m pc' L S))) : Wp p e below P (T.setTop (mkF m pc L (.long y :: .long x :: S))) :=
  w_lcmp X hd (w_ifle X hd2 (fun q => K1 (fun r => q ((own_lc x y).2.1.mpr r))) (fun q => K2 ((own_lc x y).2.1.mp q)))
theorem w_ifnullT (X : Sd Z n0 kk code ml own nm ret h p l e R s m args below meth c T locs cells slots) {t : Nat} (hd : Bc code pc .ifnull t pc') (K : Wp p e below P (T.setTop (mkF m t L S))) : Wp p e below P (T.setTop (mkF m pc L (.null :: S))) := by
  obtain ⟨o, hd, h1, h2, -⟩ := hd
  exact Wp.of (fun _ k => XS.ifnullYes X.st.here X.hx rfl (pc0 := pc) rfl (X.hb hd) rfl h1 h2 k) K
theorem w_ifnullF (X : Sd Z n0 kk code ml own nm ret h p l e R s m args below meth c T locs cells slots) {t : Nat} {a : Addr} (hd : Bc code pc .ifnull t pc') (K : Wp p e below P (T.setTop (mkF m pc' L S))) : Wp p e below P (T.setTop (mkF m pc L (.ref a :: S))) := by
  obtain ⟨o, hd, h1, h2, rfl⟩ := hd
  exact Wp.of (fun _ k => XS.ifnullNo X.st.here X.hx rfl (X.hb hd) rfl k) K
theorem w_ifnonnullT (X : Sd Z n0 kk code ml own nm ret h p l e R s m args below meth c T locs cells slots) {t : Nat} {a : Addr} (hd : Bc code pc .ifnonnull t pc') (K : Wp p e below P (T.setTop (mkF m t L S))) : Wp p e below P (T.setTop (mkF m pc L (.ref a :: S))) := by
  obtain ⟨o, hd, h1, h2, -⟩ := hd
  exact Wp.of (fun _ k => XS.ifnonnullYes X.st.here X.hx rfl (pc0 := pc) rfl (X.hb hd) rfl h1 h2 k) K
theorem w_ifnonnullF (X : Sd Z n0 kk code ml own nm ret h p l e R s m args below meth c T locs cells slots) {t : Nat} (hd : Bc code pc .ifnonnull t pc') (K : Wp p e below P (T.setTop (mkF m pc' L S))) : Wp p e below P (T.setTop (mkF m pc L (.null :: S))) := by
  obtain ⟨o, hd, h1, h2, rfl⟩ := hd
  exact Wp.of (fun _ k => XS.ifnonnullNo X.st.here X.hx rfl (X.hb hd) rfl k) K
theorem w_acmpeq (X : Sd Z n0 kk code ml own nm ret h p l e R s m args below meth c T locs cells slots) {x y : Value} {t : Nat} (hx' : x.isRef = true) (hy' : y.isRef = true) (hd : Bc code pc (.if_acmp .eq) t pc') (K1 : x = y → Wp p e below P (T.setTop (mkF m t L S))) (K2 : ¬ x = y → Wp p e below P (T.setTop (mkF m pc' L S))) : Wp p e below P (T.setTop (mkF m pc L (y :: x :: S))) := by
  obtain ⟨o, hd, h1, h2, rfl⟩ := hd
  by_cases q : x = y
  · exact Wp.of (fun _ k => Jvm.RoadKit.acmp X.st X.hx rfl hx' hy' (pc0 := pc) (same := true) rfl (X.hb hd) rfl (decide_eq_true q) h1 (by simp [acV, h2]) k) (K1 q)
  · exact Wp.of (fun _ k => Jvm.RoadKit.acmp X.st X.hx rfl hx' hy' (pc0 := pc) (same := false) rfl (X.hb hd) rfl (decide_eq_false q) h1 (by simp [acV, h2]) k) (K2 q)
theorem w_acmpne (X : Sd Z n0 kk code ml own nm ret h p l e R s m args below meth c T locs cells slots) {x y : Value} {t : Nat} (hx' : x.isRef = true) (hy' : y.isRef = true) (hd : Bc code pc (.if_acmp .ne) t pc') (K1 : ¬ x = y → Wp p e below P (T.setTop (mkF m t L S))) (K2 : x = y → Wp p e below P (T.setTop (mkF m pc' L S))) : Wp p e below P (T.setTop (mkF m pc L (y :: x :: S))) := by
  obtain ⟨o, hd, h1, h2, rfl⟩ := hd
  by_cases q : x = y
  · exact Wp.of (fun _ k => Jvm.RoadKit.acmp X.st X.hx rfl hx' hy' (pc0 := pc) (same := true) rfl (X.hb hd) rfl (decide_eq_true q) h1 (by simp [acV, h2]) k) (K2 q)
  · exact Wp.of (fun _ k => Jvm.RoadKit.acmp X.st X.hx rfl hx' hy' (pc0 := pc) (same := false) rfl (X.hb hd) rfl (decide_eq_false q) h1 (by simp [acV, h2]) k) (K1 q)
theorem w_tsw (X : Sd Z n0 kk code ml own nm ret h p l e R s m args below meth c T locs cells slots) {dflt low high : Int} {offs : Array Int} {len : Nat} {o : Int} {t : Nat} {i : Int32} (hd : Dc code pc (.tableswitch dflt low high offs) len pc') (hin : ¬ (i.toInt < low ∨ i.toInt > high)) (hoff : offs[(i.toInt - low).toNat]? = some o) (ho : 0 ≤ (pc : Int) + o) (ht : ((pc : Int) + o).toNat = t) (K : Wp p e below P (T.setTop (mkF m t L S))) : Wp p e below P (T.setTop (mkF m pc L (.int i :: S))) := by
  obtain ⟨hd, -⟩ := hd
  exact Wp.of (fun _ k => XS.tswIn X.st.here X.hx rfl (pc0 := pc) rfl (X.hb hd) rfl hin hoff ho ht k) K
theorem w_ldcI (X : Sd Z n0 kk code ml own nm ret h p l e R s m args below meth c T locs cells slots) {i : Nat} {v : Int32} (hd : Dc code pc (.ldc i) 2 pc') (hw : (Cond.constant own i v).before a0 Z = true) (K : Wp p e below P (T.setTop (mkF m pc' L (.int v :: S)))) : Wp p e below P (T.setTop (mkF m pc L S)) := by
  obtain ⟨hd, rfl⟩ := hd
  exact Wp.of (fun _ k => X.st.ldcInt X.hx X.hown (mvT X.hZ hw) (g := mkF m pc L S) rfl (X.hb hd) _ k) K
theorem w_ldc2J (X : Sd Z n0 kk code ml own nm ret h p l e R s m args below meth c T locs cells slots) {i : Nat} {v : Int64} (hd : Dc code pc (.ldc2_w i) 3 pc') (hw : (Cond.constantLong own i v).before a0 Z = true) (K : Wp p e below P (T.setTop (mkF m pc' L (.long v :: S)))) : Wp p e below P (T.setTop (mkF m pc L S)) := by
  obtain ⟨hd, rfl⟩ := hd
  exact Wp.of (fun _ k => X.st.ldc2Long X.hx X.hown (mvT X.hZ hw) (g := mkF m pc L S) rfl (X.hb hd) _ k) K
end Steps
/-- what a contract says of the end -/
def Po (Z : State) (n0 : Nat) (s : State) (Q : Option Value → Heap → Prop) (ce sl : Nat) : State → Outcome → Prop := fun U o => ∃ v L, o = .returned v ∧ (Fr n0 L ∧ Old Z n0 U.heap ∧ s.heap.size ≤ U.heap.size ∧ Q v U.heap) ∧ FrameEnd s o U L ce sl
/-- called with these arguments at the heap h0, y returns and Q holds of what it returns and of the heap behind it -/
def Does (l : Launch) (Z : State) (n0 : Nat) (y : MethodName) (code : ByteArray) (ml : Nat) (ret : Option FieldType) (ws : List Cond) (rm : Room) (as' : Array Value) (h0 : Heap) (Q : Option Value → Heap → Prop) : Prop :=
  Old Z n0 h0 → MetFree l y (head1 (Cond.code y code ml ret :: ws) rm) (fun a U => a = as' ∧ Z.Warmed39 U.vm ∧ U.heap = h0) (fun _ _ _ _ _ => True) (fun _ U o U' => ∃ v L, o = .returned v ∧ (Fr n0 L ∧ Old Z n0 U'.heap ∧ h0.size ≤ U'.heap.size ∧ Q v U'.heap) ∧ FrameEnd U o U' L rm.cells rm.slots)
theorem Does.start {l : Launch} {Z : State} {n0 : Nat} {y : MethodName} {code : ByteArray} {ml : Nat} {ret : Option FieldType} {ws : List Cond} {rm : Room} {as' : Array Value} {h0 : Heap} {Q : Option Value → Heap → Prop} (hp : plainFor y = true)
    (body : ∀ p e s m below meth c s₁, Sd Z n0 0 code ml y.cls y.name ret h0 p l e rm s m as' below meth c s₁ [] 0 0 → Wp p e below (Po Z n0 s Q rm.cells rm.slots) (s₁.setTop (entryFrame m as' ml))) : Does l Z n0 y code ml ret ws rm as' h0 Q := by
  intro hold
  refine MetFree.of_bodySF hp hisR ?_
  intro p e s m args below meth c s₁ Bd hml0 hP hK
  obtain ⟨rfl, hZ, hh⟩ := hP
  have hh' := hh
  subst hh
  exact body p e s m below meth c s₁ ⟨Stand.of_body Bd, ⟨Bd.exec, Bd.bytes, hml0, findClass_of_methodNamed Bd.named, hZ, Bd.returns, (name_of_methodNamed Bd.named Bd.method).1, Bd.notSynchronized⟩, by rw [Bd.state]; rfl, Fr.nil n0, hold, Nat.zero_le _⟩
theorem Does.mono {l : Launch} {Z : State} {n0 : Nat} {y : MethodName} {code : ByteArray} {ml : Nat} {ret : Option FieldType} {ws : List Cond} {rm : Room} {as' : Array Value} {h0 : Heap} {Q Q' : Option Value → Heap → Prop} (D : Does l Z n0 y code ml ret ws rm as' h0 Q) (f : ∀ v h, Q v h → Q' v h) : Does l Z n0 y code ml ret ws rm as' h0 Q' := by
  intro hold p e ha hc hk s m args below hf happ hP hK
  obtain ⟨n, o, h1, h2, h3, v, L, e1, ⟨q1, q2, q2', q3⟩, q4⟩ := D hold p e ha hc hk s m args below hf happ hP hK
  exact ⟨n, o, h1, h2, h3, v, L, e1, ⟨q1, q2, q2', f _ _ q3⟩, q4⟩
section Steps2
variable {Z : State} {n0 kk : Nat} {code : ByteArray} {ml : Nat} {own nm : String} {ret : Option FieldType} {h : Heap} {p : Program} {l : Launch} {e : Env} {R : Room} {s : State} {m : MethodId} {args : Array Value} {below : List Frame} {meth : Method} {c : Code} {T : State} {locs : List Loc} {cells slots : Nat} {P : State → Outcome → Prop} {a0 : Array Value} {pc pc' : Nat} {L : Array Slot} {S : List Value} {Q : Option Value → Heap → Prop} {ce sl : Nat}
theorem Sd.done (X : Sd Z n0 kk code ml own nm ret h p l e R s m args below meth c T locs cells slots) {v : Option Value} (hv : ret = none → v = none) (hq : Q v h) (hc : cells ≤ ce) (hs : slots ≤ sl) {g : JFrame} (step : ∀ fs, (∀ (f : JFrame) (acts : List Action), f.method = m → f.locked = none → f.entered = [] → (doReturn e (T.setTop f) acts v).1 = T.setFrames fs) → Steps p.tables e below (T.setTop g) (T.setFrames fs)) : Wp p e below (Po Z n0 s Q ce sl) (T.setTop g) := by
  obtain ⟨fs, hr, hrun, hended, hW, hsame⟩ := X.st.leave (v := v) (fun q => hv (X.hret ▸ q)) X.hlk
  have e1 : (T.setFrames fs).heap = h := X.eh
  refine ⟨_, _, step fs hr, hrun, hended, v, locs, rfl, ⟨X.fr, ?_, X.st.same.2.1, ?_⟩, ⟨_, rfl⟩, hW, hsame.mono hc hs⟩
  · rw [e1]; exact X.old
  · rw [e1]; exact hq
theorem w_retI (X : Sd Z n0 kk code ml own nm (some .int) h p l e R s m args below meth c T locs cells slots) {z : Int32} (hd : Dc code pc .ireturn 1 pc') (hq : Q (some (.int z)) h) (hc : cells ≤ ce) (hs : slots ≤ sl) : Wp p e below (Po Z n0 s Q ce sl) (T.setTop (mkF m pc L (.int z :: S))) :=
  X.done nofun hq hc hs fun fs hr => retOut X.st X.hx X.hret rfl (Or.inl ⟨rfl, Or.inl rfl, z, rfl⟩) (X.hb hd.1) hr
theorem w_ret_boolean (X : Sd Z n0 kk code ml own nm (some .boolean) h p l e R s m args below meth c T locs cells slots) {z : Int32} (z' : Int32) (hz : nar .boolean z = z') (hd : Dc code pc .ireturn 1 pc') (hq : Q (some (.int z')) h) (hc : cells ≤ ce) (hs : slots ≤ sl) : Wp p e below (Po Z n0 s Q ce sl) (T.setTop (mkF m pc L (.int z :: S))) := by
  subst hz
  exact X.done nofun hq hc hs fun fs hr => retN X.st X.hx X.hret (by simp) (X.hb hd.1) hr
theorem w_ret_byte (X : Sd Z n0 kk code ml own nm (some .byte) h p l e R s m args below meth c T locs cells slots) {z : Int32} (z' : Int32) (hz : nar .byte z = z') (hd : Dc code pc .ireturn 1 pc') (hq : Q (some (.int z')) h) (hc : cells ≤ ce) (hs : slots ≤ sl) : Wp p e below (Po Z n0 s Q ce sl) (T.setTop (mkF m pc L (.int z :: S))) := by
  subst hz
  exact X.done nofun hq hc hs fun fs hr => retN X.st X.hx X.hret (by simp) (X.hb hd.1) hr
theorem w_ret_char (X : Sd Z n0 kk code ml own nm (some .char) h p l e R s m args below meth c T locs cells slots) {z : Int32} (z' : Int32) (hz : nar .char z = z') (hd : Dc code pc .ireturn 1 pc') (hq : Q (some (.int z')) h) (hc : cells ≤ ce) (hs : slots ≤ sl) : Wp p e below (Po Z n0 s Q ce sl) (T.setTop (mkF m pc L (.int z :: S))) := by
  subst hz
  exact X.done nofun hq hc hs fun fs hr => retN X.st X.hx X.hret (by simp) (X.hb hd.1) hr
theorem w_ret_short (X : Sd Z n0 kk code ml own nm (some .short) h p l e R s m args below meth c T locs cells slots) {z : Int32} (z' : Int32) (hz : nar .short z = z') (hd : Dc code pc .ireturn 1 pc') (hq : Q (some (.int z')) h) (hc : cells ≤ ce) (hs : slots ≤ sl) : Wp p e below (Po Z n0 s Q ce sl) (T.setTop (mkF m pc L (.int z :: S))) := by
  subst hz
  exact X.done nofun hq hc hs fun fs hr => retN X.st X.hx X.hret (by simp) (X.hb hd.1) hr
theorem w_retJ (X : Sd Z n0 kk code ml own nm (some .long) h p l e R s m args below meth c T locs cells slots) {z : Int64} (hd : Dc code pc .lreturn 1 pc') (hq : Q (some (.long z)) h) (hc : cells ≤ ce) (hs : slots ≤ sl) : Wp p e below (Po Z n0 s Q ce sl) (T.setTop (mkF m pc L (.long z :: S))) :=
  X.done nofun hq hc hs fun fs hr => retOut X.st X.hx X.hret rfl (Or.inr (Or.inl ⟨rfl, rfl, z, rfl⟩)) (X.hb hd.1) hr
theorem w_retR (X : Sd Z n0 kk code ml own nm ret h p l e R s m args below meth c T locs cells slots) {t : FieldType} {z : Value} (ht : t.isReference = true) (hz : z.isRef = true) (hret : ret = some t) (hd : Dc code pc .areturn 1 pc') (hq : Q (some z) h) (hc : cells ≤ ce) (hs : slots ≤ sl) : Wp p e below (Po Z n0 s Q ce sl) (T.setTop (mkF m pc L (z :: S))) := by
  subst hret
  exact X.done nofun hq hc hs fun fs hr => retOut X.st X.hx X.hret (by rcases ref_cases hz with rfl | ⟨z, rfl⟩ <;> cases t <;> first | rfl | cases ht) (Or.inr (Or.inr (Or.inr (Or.inr ⟨rfl, ht, hz⟩)))) (X.hb hd.1) hr
theorem w_retV (X : Sd Z n0 kk code ml own nm (none) h p l e R s m args below meth c T locs cells slots) (hd : Dc code pc .return_ 1 pc') (hq : Q none h) (hc : cells ≤ ce) (hs : slots ≤ sl) : Wp p e below (Po Z n0 s Q ce sl) (T.setTop (mkF m pc L [])) :=
  X.done (fun _ => rfl) hq hc hs fun fs hr => X.st.returnOut X.hx X.hret (X.hb hd.1) hr
theorem w_getF (X : Sd Z n0 kk code ml own nm ret h p l e R s m args below meth c T locs cells slots) {R0 O n d host : String} {index : Nat} {a : Addr} {v : Value} (hd : Dc code pc (.getfield index) 3 pc') (w : (Cond.fieldLink own index R0 n d).before a0 Z = true ∨ (Cond.fieldLinkNest own index R0 n d host).before a0 Z = true) (via : Via Z R0 O n d) (F : Fld Z h a O n d v) (K : ∀ T', Sd Z n0 kk code ml own nm ret h p l e R s m args below meth c T' locs cells slots → Wp p e below P (T'.setTop (mkF m pc' L (v :: S)))) : Wp p e below P (T.setTop (mkF m pc L (.ref a :: S))) := by
  obtain ⟨hd, rfl⟩ := hd
  obtain ⟨T', X', e', st⟩ := getF X.st X.hx X.hZ X.hown w via X.eh F (g := mkF m pc L (.ref a :: S)) rfl rfl (X.hb hd)
  exact Wp.of st (K T' (X.mk' X' e' X.fr X.old (Nat.le_refl _)))
theorem w_getS (X : Sd Z n0 kk code ml own nm ret h p l e R s m args below meth c T locs cells slots) {R0 O n d host : String} {index : Nat} {v : Value} (hd : Dc code pc (.getstatic index) 3 pc') (w : (Cond.fieldLink own index R0 n d).before a0 Z = true ∨ (Cond.fieldLinkNest own index R0 n d host).before a0 Z = true) (via : Via Z R0 O n d) (F : Sta Z h O n d v) (K : ∀ T', Sd Z n0 kk code ml own nm ret h p l e R s m args below meth c T' locs cells slots → Wp p e below P (T'.setTop (mkF m pc' L (v :: S)))) : Wp p e below P (T.setTop (mkF m pc L S)) := by
  obtain ⟨hd, rfl⟩ := hd
  obtain ⟨T', X', e', st⟩ := getS2 X.st X.hx X.hZ X.hown w via X.eh F (g := mkF m pc L S) rfl (X.hb hd)
  exact Wp.of st (K T' (X.mk' X' e' X.fr X.old (Nat.le_refl _)))
theorem w_putF (X : Sd Z n0 kk code ml own nm ret h p l e R s m args below meth c T locs cells slots) {R0 O n d host C : String} {index ni : Nat} {ty : FieldType} {a : Addr} {v old : Value} (hd : Dc code pc (.putfield index) 3 pc')  (w : (Cond.fieldLink own index R0 n d).before a0 Z = true ∨ (Cond.fieldLinkNest own index R0 n d host).before a0 Z = true) (via : Via Z R0 O n d) (F : Fld Z h a O n d old) (E : Exa Z h a C) (L0 : (Cond.lays C O n d).before a0 Z = true ∨ ((Cond.laysFinal C O n d).before a0 Z = true ∧ own = O ∧ nm = "<init>")) (wi : (Cond.instantiable C ni).before a0 Z = true) (hty : parseFieldDescriptor d = some ty) (hn : narrow ty v = v) (hf : fits ty v = true) (ga : n0 ≤ a) (K : ∀ T' h', Sd Z n0 kk code ml own nm ret h' p l e R s m args below meth c T' (locs ++ [⟨a, slotOf Z O n d⟩]) cells slots → Wr h h' a (slotOf Z O n d) v → Wp p e below P (T'.setTop (mkF m pc' L S))) : Wp p e below P (T.setTop (mkF m pc L (v :: .ref a :: S))) := by
  obtain ⟨hd, rfl⟩ := hd
  obtain ⟨T', h', X', e', W, st⟩ := putF X.st X.hx X.hZ X.hown w via X.eh F E (L0.imp id fun q => ⟨q.1, q.2.1, X.hnm.trans q.2.2⟩) wi hty hn hf (g := mkF m pc L (v :: .ref a :: S)) rfl rfl (X.hb hd)
  exact Wp.of st (K T' h' (X.mk' X' e' (Fr.snoc X' X.fr ga) (X.old.wr W ga) (Nat.le_of_eq W.size.symm)) W)
theorem w_putFN (X : Sd Z n0 kk code ml own nm ret h p l e R s m args below meth c T locs cells slots) {R0 O n d C : String} {index ni : Nat} {ty : FieldType} {a : Addr} {v old : Value} (hd : Dc code pc (.putfield index) 3 pc')  (w : (Cond.fieldLink own index R0 n d).before a0 Z = true) (via : Via Z R0 O n d) (F : Fld Z h a O n d old) (E : Exa Z h a C) (L0 : (Cond.lays C O n d).before a0 Z = true ∨ ((Cond.laysFinal C O n d).before a0 Z = true ∧ own = O ∧ nm = "<init>")) (wi : (Cond.instantiable C ni).before a0 Z = true) (hty : parseFieldDescriptor d = some ty) (v' : Value) (hn : narrow ty v = v') (hf : fits ty v' = true) (ga : n0 ≤ a) (K : ∀ T' h', Sd Z n0 kk code ml own nm ret h' p l e R s m args below meth c T' (locs ++ [⟨a, slotOf Z O n d⟩]) cells slots → Wr h h' a (slotOf Z O n d) v' → Wp p e below P (T'.setTop (mkF m pc' L S))) : Wp p e below P (T.setTop (mkF m pc L (v :: .ref a :: S))) := by
  obtain ⟨hd, rfl⟩ := hd
  obtain ⟨T', h', X', e', W, st⟩ := putFN X.st X.hx X.hZ X.hown w via X.eh F E (L0.imp id fun q => ⟨q.1, q.2.1, X.hnm.trans q.2.2⟩) wi hty hn hf (g := mkF m pc L (v :: .ref a :: S)) rfl rfl (X.hb hd)
  exact Wp.of st (K T' h' (X.mk' X' e' (Fr.snoc X' X.fr ga) (X.old.wr W ga) (Nat.le_of_eq W.size.symm)) W)
theorem w_new (X : Sd Z n0 kk code ml own nm ret h p l e R s m args below meth c T locs cells slots) {C : String} {index n : Nat} (hd : Dc code pc (.new index) 3 pc') (w1 : (Cond.classLink own index C).before a0 Z = true) (wi : (Cond.instantiable C n).before a0 Z = true) (wz : (Cond.initialized C).before a0 Z = true) (hc : cells + 1 ≤ R.cells) (hl : slots + n ≤ R.slots) (K : ∀ T' h' b, b = h.size → n0 ≤ b → Sd Z n0 kk code ml own nm ret h' p l e R s m args below meth c T' locs (cells + 1) (slots + n) → Ext h h' → Exa Z h' b C → (∀ {O nm' d : String} {ty : FieldType}, Laid Z a0 C O nm' d → parseFieldDescriptor d = some ty → Fld Z h' b O nm' d (defaultValue ty)) → Wp p e below P (T'.setTop (mkF m pc' L (.ref b :: S)))) : Wp p e below P (T.setTop (mkF m pc L S)) := by
  obtain ⟨hd, rfl⟩ := hd
  obtain ⟨T', h', X', e', E, A, D, -, st⟩ := newO X.st X.hx X.hZ X.hown w1 wi wz X.eh (g := mkF m pc L S) rfl (X.hb hd) hc hl
  exact Wp.of st (K T' h' _ rfl (X.old.1 ▸ X.old.2.1) (X.mk' X' e' X.fr (X.old.ext E) E.1) E A D)
theorem w_initO (X : Sd Z n0 kk code ml own nm ret h p l e R s m args below meth c T locs cells slots) {index : Nat} {a : Addr} (hd : Dc code pc (.invokespecial index) 3 pc') (w1 : (Cond.methodLink own index Lib.objectInit).before a0 Z = true) (w2 : (Cond.instanceMethod Lib.objectInit).before a0 Z = true) (w3 : (Cond.code Lib.objectInit ⟨#[0xb1]⟩ 1 none).before a0 Z = true) (hsz : L.size = ml) (hf : 1 ≤ R.frames) (hl : (S.map fun v => v.category).sum + 12 ≤ R.locals) (K : ∀ T', Sd Z n0 kk code ml own nm ret h p l e R s m args below meth c T' locs cells slots → Wp p e below P (T'.setTop (mkF m pc' L S))) : Wp p e below P (T.setTop (mkF m pc L (.ref a :: S))) := by
  obtain ⟨hd, rfl⟩ := hd
  obtain ⟨T', X', e', st⟩ := initO X.st X.hx X.hZ X.hown w1 w2 w3 X.eh (g := mkF m pc L (.ref a :: S)) rfl (by rw [X.hml]; exact hsz) rfl (X.hb hd) hf (W := (S.map fun v => v.category).sum) (by show 2 * 0 + _ ≤ _; omega) hl
  exact Wp.of st (K T' (X.mk' X' e' X.fr X.old (Nat.le_refl _)))
theorem w_callS (X : Sd Z n0 kk code ml own nm ret h p l e R s m args below meth c T locs cells slots) {y : MethodName} {bytes : ByteArray} {maxL : Nat} {ret' : Option FieldType} {rm : Room} {index : Nat} {Q' : Option Value → Heap → Prop} {ps : List FieldType} {rr : Option FieldType} {stk : List Value} (hd : Dc code pc (.invokestatic index) 3 pc') (w1 : (Cond.methodLink own index y).before a0 Z = true) (w2 : (Cond.static y).before a0 Z = true) (w3 : (Cond.initialized y.cls).before a0 Z = true) (w4 : (Cond.code y bytes maxL ret').before a0 Z = true) (hy : y.cls ≠ "java/lang/invoke/MethodHandle" ∧ y.cls ≠ "java/lang/invoke/VarHandle") {argsL : List Value} (D : Does l Z n0 y bytes maxL ret' [] rm argsL.toArray h Q') (hpd : parseMethodDescriptor y.desc = some ⟨ps, rr⟩) (hlen : argsL.length = ps.length) (hst : stk = argsL.reverse ++ S) (hsz : L.size = ml) (hf : rm.frames + 1 ≤ R.frames) (hl : (S.map fun v => v.category).sum + (maxL + 11) + rm.locals ≤ R.locals) (hc : cells + rm.cells ≤ R.cells) (hs : slots + rm.slots ≤ R.slots) (K : ∀ T' h' v L', Sd Z n0 kk code ml own nm ret h' p l e R s m args below meth c T' (locs ++ L') (cells + rm.cells) (slots + rm.slots) → Q' v h' → Wp p e below P (T'.setTop (mkF m pc' L (v.toList ++ S)))) : Wp p e below P (T.setTop (mkF m pc L stk)) := by
  obtain ⟨hd, rfl⟩ := hd
  obtain ⟨v, vm1, ⟨T', L1, k1, n1⟩, -, X', ⟨Lc, hQ, l1, y1, z1⟩, st⟩ := Jvm.LawKit.callS X.st X.hx X.hown (mvT X.hZ w1) (mvT X.hZ w2) (mvT X.hZ w3) (mvT X.hZ w4) hy (backOf (Q := fun v h' L => Fr n0 L ∧ Old Z n0 h' ∧ h.size ≤ h'.size ∧ Q' v h') (W := (S.map fun v => v.category).sum) (D X.old) X.hZ w4 w3 hf hl) (g := mkF m pc L stk) rfl (by rw [X.hml]; exact hsz) (argsL := argsL) (rest := S) (lenOf hpd hlen) hst (by show 2 * 0 + _ ≤ _; omega) (X.hb hd) (fun _ _ => ⟨rfl, X.eh, hc, hs⟩)
  dsimp only [Pt.U, Pt.locs, Pt.cells, Pt.slots] at X' l1 y1 z1 st hQ
  subst l1 y1 z1
  exact Wp.of st (K T' _ v Lc (X.mk' X' rfl (X.fr.app hQ.1) hQ.2.1 hQ.2.2.1) hQ.2.2.2)
theorem w_callI (X : Sd Z n0 kk code ml own nm ret h p l e R s m args below meth c T locs cells slots) {y : MethodName} {bytes : ByteArray} {maxL : Nat} {rm : Room} {index : Nat} {Q' : Option Value → Heap → Prop} {ps : List FieldType} {rr : Option FieldType} {stk : List Value} (hd : Dc code pc (.invokespecial index) 3 pc') (hi : y.name = "<init>") (w1 : (Cond.methodLink own index y).before a0 Z = true) (w2 : (Cond.instanceMethod y).before a0 Z = true) (w3 : (Cond.initialized y.cls).before a0 Z = true) (w4 : (Cond.code y bytes maxL none).before a0 Z = true) (hy : y.cls ≠ "java/lang/invoke/MethodHandle" ∧ y.cls ≠ "java/lang/invoke/VarHandle") {a : Addr} {argsL : List Value} (D : Does l Z n0 y bytes maxL none [] rm (.ref a :: argsL).toArray h Q') (hpd : parseMethodDescriptor y.desc = some ⟨ps, rr⟩) (hlen : argsL.length = ps.length) (hst : stk = argsL.reverse ++ .ref a :: S) (hsz : L.size = ml) (hf : rm.frames + 1 ≤ R.frames) (hl : (S.map fun v => v.category).sum + (maxL + 11) + rm.locals ≤ R.locals) (hc : cells + rm.cells ≤ R.cells) (hs : slots + rm.slots ≤ R.slots) (K : ∀ T' h' v L', Sd Z n0 kk code ml own nm ret h' p l e R s m args below meth c T' (locs ++ L') (cells + rm.cells) (slots + rm.slots) → Q' v h' → Wp p e below P (T'.setTop (mkF m pc' L (v.toList ++ S)))) : Wp p e below P (T.setTop (mkF m pc L stk)) := by
  obtain ⟨hd, rfl⟩ := hd
  obtain ⟨v, vm1, ⟨T', L1, k1, n1⟩, -, X', ⟨Lc, hQ, l1, y1, z1⟩, st⟩ := X.st.specialBack X.hx hi X.hown (mvT X.hZ w1) (mvT X.hZ w2) (mvT X.hZ w4) hy (backOf (Q := fun v h' L => Fr n0 L ∧ Old Z n0 h' ∧ h.size ≤ h'.size ∧ Q' v h') (W := (S.map fun v => v.category).sum) (D X.old) X.hZ w4 w3 hf hl) (g := mkF m pc L stk) rfl (by rw [X.hml]; exact hsz) (Steps.refl _) (a := a) (argsL := argsL) (rest := S) (lenOf hpd hlen) hst (by show 2 * 0 + _ ≤ _; omega) (X.hb hd) (fun _ _ => ⟨rfl, X.eh, hc, hs⟩)
  dsimp only [Pt.U, Pt.locs, Pt.cells, Pt.slots] at X' l1 y1 z1 st hQ
  subst l1 y1 z1
  exact Wp.tr st (K T' _ v Lc (X.mk' X' rfl (X.fr.app hQ.1) hQ.2.1 hQ.2.2.1) hQ.2.2.2)
theorem w_callV (X : Sd Z n0 kk code ml own nm ret h p l e R s m args below meth c T locs cells slots) {y : MethodName} {bytes : ByteArray} {maxL : Nat} {ret' : Option FieldType} {rm : Room} {index : Nat} {Q' : Option Value → Heap → Prop} {ps : List FieldType} {rr : Option FieldType} {stk : List Value} {z : MethodName} {C : String} (hd : Dc code pc (.invokevirtual index) 3 pc') (w1 : (Cond.methodLink own index y).before a0 Z = true) (wd : (Cond.declares y).before a0 Z = true) (hnf : NotFace s y) (ws : (Cond.selects C y z).before a0 Z = true) (w2 : (Cond.instanceMethod z).before a0 Z = true) (w3 : (Cond.initialized z.cls).before a0 Z = true) (w4 : (Cond.code z bytes maxL ret').before a0 Z = true) (hy : y.cls ≠ "java/lang/invoke/MethodHandle" ∧ y.cls ≠ "java/lang/invoke/VarHandle") {a : Addr} (E : Exa Z h a C) {argsL : List Value} (D : Does l Z n0 z bytes maxL ret' [] rm (.ref a :: argsL).toArray h Q') (hpd : parseMethodDescriptor y.desc = some ⟨ps, rr⟩) (hlen : argsL.length = ps.length) (hst : stk = argsL.reverse ++ .ref a :: S) (hsz : L.size = ml) (hf : rm.frames + 1 ≤ R.frames) (hl : (S.map fun v => v.category).sum + (maxL + 11) + rm.locals ≤ R.locals) (hc : cells + rm.cells ≤ R.cells) (hs : slots + rm.slots ≤ R.slots) (K : ∀ T' h' v L', Sd Z n0 kk code ml own nm ret h' p l e R s m args below meth c T' (locs ++ L') (cells + rm.cells) (slots + rm.slots) → Q' v h' → Wp p e below P (T'.setTop (mkF m pc' L (v.toList ++ S)))) : Wp p e below P (T.setTop (mkF m pc L stk)) := by
  obtain ⟨hd, rfl⟩ := hd
  obtain ⟨cq, kq, qa, qb, qc⟩ := isOf X.hZ X.eh E
  obtain ⟨v, vm1, ⟨T', L1, k1, n1⟩, -, X', ⟨Lc, hQ, l1, y1, z1⟩, st⟩ := X.st.virtualBack X.hx X.hown (mvT X.hZ w1) (mvT X.hZ wd) hnf (mvT X.hZ ws) (mvT X.hZ w2) hy (backOf (Q := fun v h' L => Fr n0 L ∧ Old Z n0 h' ∧ h.size ≤ h'.size ∧ Q' v h') (W := (S.map fun v => v.category).sum) (D X.old) X.hZ w4 w3 hf hl) qa qc (g := mkF m pc L stk) rfl (by rw [X.hml]; exact hsz) (Steps.refl _) (argsL := argsL) (rest := S) (lenOf hpd hlen) hst (by show 2 * 0 + _ ≤ _; omega) (X.hb hd) (fun _ _ => ⟨rfl, X.eh, hc, hs⟩)
  dsimp only [Pt.U, Pt.locs, Pt.cells, Pt.slots] at X' l1 y1 z1 st hQ
  subst l1 y1 z1
  exact Wp.tr st (K T' _ v Lc (X.mk' X' rfl (X.fr.app hQ.1) hQ.2.1 hQ.2.2.1) hQ.2.2.2)
theorem w_callP (X : Sd Z n0 kk code ml own nm ret h p l e R s m args below meth c T locs cells slots) {y : MethodName} {bytes : ByteArray} {maxL : Nat} {ret' : Option FieldType} {rm : Room} {index : Nat} {Q' : Option Value → Heap → Prop} {ps : List FieldType} {rr : Option FieldType} {stk : List Value} (hd : Dc code pc (.invokevirtual index) 3 pc') (w1 : (Cond.methodLink own index y).before a0 Z = true) (w2 : (Cond.instanceMethod y).before a0 Z = true) (ws : (Cond.selects y.cls y y).before a0 Z = true) (wp : (Cond.privateMethod y).before a0 Z = true) (w3 : (Cond.initialized y.cls).before a0 Z = true) (w4 : (Cond.code y bytes maxL ret').before a0 Z = true) (hy : y.cls ≠ "java/lang/invoke/MethodHandle" ∧ y.cls ≠ "java/lang/invoke/VarHandle") {a : Addr} {C : String} (E : Exa Z h a C) {argsL : List Value} (D : Does l Z n0 y bytes maxL ret' [] rm (.ref a :: argsL).toArray h Q') (hpd : parseMethodDescriptor y.desc = some ⟨ps, rr⟩) (hlen : argsL.length = ps.length) (hst : stk = argsL.reverse ++ .ref a :: S) (hsz : L.size = ml) (hf : rm.frames + 1 ≤ R.frames) (hl : (S.map fun v => v.category).sum + (maxL + 11) + rm.locals ≤ R.locals) (hc : cells + rm.cells ≤ R.cells) (hs : slots + rm.slots ≤ R.slots) (K : ∀ T' h' v L', Sd Z n0 kk code ml own nm ret h' p l e R s m args below meth c T' (locs ++ L') (cells + rm.cells) (slots + rm.slots) → Q' v h' → Wp p e below P (T'.setTop (mkF m pc' L (v.toList ++ S)))) : Wp p e below P (T.setTop (mkF m pc L stk)) := by
  obtain ⟨hd, rfl⟩ := hd
  obtain ⟨cq, qa, qb⟩ := E.cell
  obtain ⟨v, vm1, ⟨T', L1, k1, n1⟩, -, X', ⟨Lc, hQ, l1, y1, z1⟩, st⟩ := X.st.privateBack X.hx X.hown (mvT X.hZ w1) (mvT X.hZ w2) (mvT X.hZ ws) (Cond.privateMethod_at (mvP X.hZ wp (args := #[]))) (mvT X.hZ w4) hy (backOf (Q := fun v h' L => Fr n0 L ∧ Old Z n0 h' ∧ h.size ≤ h'.size ∧ Q' v h') (W := (S.map fun v => v.category).sum) (D X.old) X.hZ w4 w3 hf hl) (g := mkF m pc L stk) rfl (by rw [X.hml]; exact hsz) (Steps.refl _) (a := a) (by rw [X.eh]; exact qa) qb (argsL := argsL) (rest := S) (lenOf hpd hlen) hst (by show 2 * 0 + _ ≤ _; omega) (X.hb hd) (fun _ _ => ⟨rfl, X.eh, hc, hs⟩)
  dsimp only [Pt.U, Pt.locs, Pt.cells, Pt.slots] at X' l1 y1 z1 st hQ
  subst l1 y1 z1
  exact Wp.tr st (K T' _ v Lc (X.mk' X' rfl (X.fr.app hQ.1) hQ.2.1 hQ.2.2.1) hQ.2.2.2)
theorem w_callU (X : Sd Z n0 kk code ml own nm ret h p l e R s m args below meth c T locs cells slots) {y : MethodName} {bytes : ByteArray} {maxL : Nat} {ret' : Option FieldType} {rm : Room} {index : Nat} {Q' : Option Value → Heap → Prop} {ps : List FieldType} {rr : Option FieldType} {stk : List Value} {z : MethodName} {C owner : String} (hd : Dc code pc (.invokevirtual index) 3 pc') (w1 : (Cond.methodLink own index y).before a0 Z = true) (wsm : (Cond.sameMethod y.cls owner y.name y.desc).before a0 Z = true) (wd : (Cond.declares ⟨owner, y.name, y.desc⟩).before a0 Z = true) (ho : owner ≠ "java/lang/invoke/MethodHandle" ∧ owner ≠ "java/lang/invoke/VarHandle") (ws : (Cond.selects C y z).before a0 Z = true) (w2 : (Cond.instanceMethod z).before a0 Z = true) (w3 : (Cond.initialized z.cls).before a0 Z = true) (w4 : (Cond.code z bytes maxL ret').before a0 Z = true) {a : Addr} (E : Exa Z h a C) {argsL : List Value} (D : Does l Z n0 z bytes maxL ret' [] rm (.ref a :: argsL).toArray h Q') (hpd : parseMethodDescriptor y.desc = some ⟨ps, rr⟩) (hlen : argsL.length = ps.length) (hst : stk = argsL.reverse ++ .ref a :: S) (hsz : L.size = ml) (hf : rm.frames + 1 ≤ R.frames) (hl : (S.map fun v => v.category).sum + (maxL + 11) + rm.locals ≤ R.locals) (hc : cells + rm.cells ≤ R.cells) (hs : slots + rm.slots ≤ R.slots) (K : ∀ T' h' v L', Sd Z n0 kk code ml own nm ret h' p l e R s m args below meth c T' (locs ++ L') (cells + rm.cells) (slots + rm.slots) → Q' v h' → Wp p e below P (T'.setTop (mkF m pc' L (v.toList ++ S)))) : Wp p e below P (T.setTop (mkF m pc L stk)) := by
  obtain ⟨hd, rfl⟩ := hd
  obtain ⟨cq, kq, qa, qb, qc⟩ := isOf X.hZ X.eh E
  obtain ⟨v, vm1, ⟨T', L1, k1, n1⟩, -, X', ⟨Lc, hQ, l1, y1, z1⟩, st⟩ := X.st.virtualBackUp X.hx X.hown (mvT X.hZ w1) (mvT X.hZ wsm) (mvT X.hZ wd) ho (mvT X.hZ ws) (mvT X.hZ w2) (backOf (Q := fun v h' L => Fr n0 L ∧ Old Z n0 h' ∧ h.size ≤ h'.size ∧ Q' v h') (W := (S.map fun v => v.category).sum) (D X.old) X.hZ w4 w3 hf hl) qa qc (g := mkF m pc L stk) rfl (by rw [X.hml]; exact hsz) (Steps.refl _) (argsL := argsL) (rest := S) (lenOf hpd hlen) hst (by show 2 * 0 + _ ≤ _; omega) (X.hb hd) (fun _ _ => ⟨rfl, X.eh, hc, hs⟩)
  dsimp only [Pt.U, Pt.locs, Pt.cells, Pt.slots] at X' l1 y1 z1 st hQ
  subst l1 y1 z1
  exact Wp.tr st (K T' _ v Lc (X.mk' X' rfl (X.fr.app hQ.1) hQ.2.1 hQ.2.2.1) hQ.2.2.2)
end Steps2
end Jvm.RoadKit
namespace Jvm.RoadKit
open Sem ClassFile Op Lib Jvm.Stand Jvm.Free Jvm.LawKit
/-- at a lies an array of component type ty that holds just these values -/
def Ary (Z : State) (h : Heap) (a : Addr) (ty : FieldType) (vs : List Value) : Prop := ∃ c : Cell, Arr Z h a c ty ∧ c.slots = vs.toArray ∧ vs.length < 2 ^ 31 ∧ ∀ v ∈ vs, fits ty v = true
section Ary
variable {Z : State} {h h' : Heap} {a b : Addr} {ty : FieldType} {vs : List Value} {sl : Nat} {v : Value} {ws : List Addr}
theorem Ary.lt (A : Ary Z h a ty vs) : a < h.size := by obtain ⟨c, A, -⟩ := A; exact A.lt
theorem Ary.ext (A : Ary Z h a ty vs) (E : Ext h h') : Ary Z h' a ty vs := by obtain ⟨c, A, r⟩ := A; exact ⟨c, A.ext E, r⟩
theorem Ary.other (A : Ary Z h b ty vs) (W : Wr h h' a sl v) (q : b ≠ a) : Ary Z h' b ty vs := by obtain ⟨c, A, r⟩ := A; exact ⟨c, A.other W q, r⟩
theorem Ary.keep (A : Ary Z h a ty vs) (K : Keep h h' ws) (q : a ∉ ws) : Ary Z h' a ty vs := by obtain ⟨c, A, r⟩ := A; exact ⟨c, ⟨K.2.1 a c A.1 q, A.2⟩, r⟩
theorem Ary.set (A : Ary Z h a ty vs) {j : Nat} (hf : fits ty v = true) (W : Wr h h' a j v) : Ary Z h' a ty (vs.set j v) := by
  obtain ⟨c, A, e, l, f⟩ := A
  refine ⟨c.setSlot j v, A.same W, ?_, by rw [List.length_set]; exact l, fun u hu => ?_⟩
  · show c.slots.setIfInBounds j v = _
    rw [e]; simp
  · rcases List.mem_or_eq_of_mem_set hu with q | rfl
    · exact f _ q
    · exact hf
theorem Ary.size {c : Cell} (e : c.slots = vs.toArray) : c.slots.size = vs.length := by rw [e]; simp
theorem own_inb {c : Cell} {j : Int32} (e : c.slots = vs.toArray) (hj : ¬ j < 0) (hv : vs[j.toNatClampNeg]? = some v) : ¬ (j < 0 ∨ c.slots.size ≤ j.toNatClampNeg) := by
  rw [Ary.size e]
  have := (List.getElem?_eq_some_iff.mp hv).1
  rintro (q | q)
  · exact hj q
  · omega
theorem own_at {c : Cell} {j : Nat} (e : c.slots = vs.toArray) (hv : vs[j]? = some v) : c.slots[j]? = some v := by rw [e]; simpa using hv
theorem Ary.new {cA : ClassId} {n : Int32} {k : Nat} (A : Arr Z h a (newA cA ty n) ty) (hk : n.toNatClampNeg = k) (hd : fits ty (defaultValue ty) = true) : Ary Z h a ty (List.replicate k (defaultValue ty)) := by
  refine ⟨_, A, ?_, ?_, fun v hv => by rw [(List.mem_replicate.mp hv).2]; exact hd⟩
  · show Array.replicate n.toNatClampNeg (defaultValue ty) = _
    rw [hk]; simp
  · rw [List.length_replicate, ← hk]; have := Int32.toInt_lt n; simp only [Int32.toNatClampNeg]; omega
/-- the kit's form of the same, and back -/
theorem Ary.arv (A : Ary Z h a ty vs) {z : Int32} {d : Value} (hz : ¬ z < 0) (hl : z.toNatClampNeg = vs.length) : ∃ k, Arv Z h a k ty z vs d := by
  obtain ⟨c, A, e, l, f⟩ := A
  have hs := Ary.size e
  have g : ∀ i, i < c.slots.size → vs[i]? = some (vs.getD i d) := fun i hi => by
    rw [hs] at hi; simp [List.getD_eq_getElem?_getD, List.getElem?_eq_getElem hi]
  exact ⟨c.cls, c, A, rfl, by rw [hs, hl], hz, fun i hi => own_at e (g i hi), fun i hi => f _ (List.mem_of_getElem? (g i hi))⟩
theorem Ary.ofArv {k : ClassId} {z : Int32} {d : Value} (A : Arv Z h a k ty z vs d) (hl : z.toNatClampNeg = vs.length) : Ary Z h a ty vs := by
  obtain ⟨c, A, -, s1, s2, H, G⟩ := A
  have e : c.slots = vs.toArray := by
    refine Array.ext (by simp [s1, hl]) fun i h1 h2 => ?_
    have q := H i h1
    have h3 : i < vs.length := by simpa using h2
    rw [Array.getElem?_eq_getElem h1] at q
    have q' := Option.some.inj q
    rw [q']; simp [List.getD_eq_getElem?_getD, List.getElem?_eq_getElem h3]
  refine ⟨c, A, e, ?_, fun v hv => ?_⟩
  · rw [← hl]; have := Int32.toInt_lt z; simp only [Int32.toNatClampNeg]; omega
  · obtain ⟨i, hi, rfl⟩ := List.getElem_of_mem hv
    have q := G i (by rw [Ary.size e]; exact hi)
    simpa [List.getD_eq_getElem?_getD, List.getElem?_eq_getElem hi] using q
end Ary
section StepsA
variable {Z : State} {n0 kk : Nat} {code : ByteArray} {ml : Nat} {own nm : String} {ret : Option FieldType} {h : Heap} {p : Program} {l : Launch} {e : Env} {R : Room} {s : State} {m : MethodId} {args : Array Value} {below : List Frame} {meth : Method} {c : Code} {T : State} {locs : List Loc} {cells slots : Nat} {P : State → Outcome → Prop} {a0 : Array Value} {pc pc' : Nat} {L : Array Slot} {S : List Value}
theorem w_newarr (X : Sd Z n0 kk code ml own nm ret h p l e R s m args below meth c T locs cells slots) {aty : ArrayType} {n : Int32} (hd : Dc code pc (.newarray aty) 2 pc') (w : (Cond.arrayClass (newarray.typeOf aty)).before a0 Z = true) (k cap : Nat) (hn : ¬ n < 0) (hk : n.toNatClampNeg = k) (hcap : k ≤ cap) (hbig : cap * 8 ≤ 536870912) (hc : cells + 1 ≤ R.cells) (hl : slots + cap ≤ R.slots) (K : ∀ T' h' b, b = h.size → n0 ≤ b → Sd Z n0 kk code ml own nm ret h' p l e R s m args below meth c T' locs (cells + 1) (slots + cap) → Ext h h' → Ary Z h' b (newarray.typeOf aty) (List.replicate k (defaultValue (newarray.typeOf aty))) → Wp p e below P (T'.setTop (mkF m pc' L (.ref b :: S)))) : Wp p e below P (T.setTop (mkF m pc L (.int n :: S))) := by
  obtain ⟨hd, rfl⟩ := hd
  obtain ⟨T', h', cA, X', e', E, A, st⟩ := newP X.st X.hx X.hZ w X.eh (g := mkF m pc L (.int n :: S)) rfl (X.hb hd) rfl hn (cap := cap) (hk ▸ hcap) hbig hc hl
  exact Wp.of st (K T' h' _ rfl (X.old.1 ▸ X.old.2.1) (X.mk' X' e' X.fr (X.old.ext E) E.1) E (Ary.new A hk (by cases aty <;> rfl)))
theorem w_iaload (X : Sd Z n0 kk code ml own nm ret h p l e R s m args below meth c T locs cells slots) {a : Addr} {j : Int32} {vs : List Value} {v : Value} (hd : Dc code pc .iaload 1 pc') (A : Ary Z h a .int vs) (hj : ¬ j < 0) (hv : vs[j.toNatClampNeg]? = some v) (K : Wp p e below P (T.setTop (mkF m pc' L (v :: S)))) : Wp p e below P (T.setTop (mkF m pc L (.int j :: .ref a :: S))) := by
  obtain ⟨hd, rfl⟩ := hd
  obtain ⟨c', A, e, -⟩ := A
  exact Wp.of (fun _ k => X.st.iaload X.hx (by rw [X.eh]; exact A.1) (State.isArrayOf_alike X.hZ.alike A.2.1) A.2.2 (own_inb e hj hv) (own_at e hv) (g := mkF m pc L (.int j :: .ref a :: S)) rfl rfl (X.hb hd) _ k) K
theorem w_laload (X : Sd Z n0 kk code ml own nm ret h p l e R s m args below meth c T locs cells slots) {a : Addr} {j : Int32} {vs : List Value} {v : Value} (hd : Dc code pc .laload 1 pc') (A : Ary Z h a .long vs) (hj : ¬ j < 0) (hv : vs[j.toNatClampNeg]? = some v) (K : Wp p e below P (T.setTop (mkF m pc' L (v :: S)))) : Wp p e below P (T.setTop (mkF m pc L (.int j :: .ref a :: S))) := by
  obtain ⟨hd, rfl⟩ := hd
  obtain ⟨c', A, e, -⟩ := A
  exact Wp.of (fun _ k => X.st.laload X.hx (by rw [X.eh]; exact A.1) (State.isArrayOf_alike X.hZ.alike A.2.1) A.2.2 (own_inb e hj hv) (own_at e hv) (g := mkF m pc L (.int j :: .ref a :: S)) rfl rfl (X.hb hd) _ k) K
theorem w_caload (X : Sd Z n0 kk code ml own nm ret h p l e R s m args below meth c T locs cells slots) {a : Addr} {j : Int32} {vs : List Value} {v : Value} (hd : Dc code pc .caload 1 pc') (A : Ary Z h a .char vs) (hj : ¬ j < 0) (hv : vs[j.toNatClampNeg]? = some v) (K : Wp p e below P (T.setTop (mkF m pc' L (v :: S)))) : Wp p e below P (T.setTop (mkF m pc L (.int j :: .ref a :: S))) := by
  obtain ⟨hd, rfl⟩ := hd
  obtain ⟨c', A, e, -⟩ := A
  exact Wp.of (fun _ k => X.st.caload X.hx (by rw [X.eh]; exact A.1) (State.isArrayOf_alike X.hZ.alike A.2.1) A.2.2 (own_inb e hj hv) (own_at e hv) (g := mkF m pc L (.int j :: .ref a :: S)) rfl rfl (X.hb hd) _ k) K
theorem w_saload (X : Sd Z n0 kk code ml own nm ret h p l e R s m args below meth c T locs cells slots) {a : Addr} {j : Int32} {vs : List Value} {v : Value} (hd : Dc code pc .saload 1 pc') (A : Ary Z h a .short vs) (hj : ¬ j < 0) (hv : vs[j.toNatClampNeg]? = some v) (K : Wp p e below P (T.setTop (mkF m pc' L (v :: S)))) : Wp p e below P (T.setTop (mkF m pc L (.int j :: .ref a :: S))) := by
  obtain ⟨hd, rfl⟩ := hd
  obtain ⟨c', A, e, -⟩ := A
  exact Wp.of (fun _ k => X.st.saload X.hx (by rw [X.eh]; exact A.1) (State.isArrayOf_alike X.hZ.alike A.2.1) A.2.2 (own_inb e hj hv) (own_at e hv) (g := mkF m pc L (.int j :: .ref a :: S)) rfl rfl (X.hb hd) _ k) K
theorem w_baload (X : Sd Z n0 kk code ml own nm ret h p l e R s m args below meth c T locs cells slots) {a : Addr} {j : Int32} {vs : List Value} {v : Value} (hd : Dc code pc .baload 1 pc') (A : Ary Z h a .byte vs) (hj : ¬ j < 0) (hv : vs[j.toNatClampNeg]? = some v) (K : Wp p e below P (T.setTop (mkF m pc' L (v :: S)))) : Wp p e below P (T.setTop (mkF m pc L (.int j :: .ref a :: S))) := by
  obtain ⟨hd, rfl⟩ := hd
  obtain ⟨c', A, e, -⟩ := A
  exact Wp.of (fun _ k => X.st.baloadBytes X.hx (by rw [X.eh]; exact A.1) (State.isArrayOf_alike X.hZ.alike A.2.1) A.2.2 (own_inb e hj hv) (own_at e hv) (g := mkF m pc L (.int j :: .ref a :: S)) rfl rfl (X.hb hd) _ k) K
theorem w_aaload (X : Sd Z n0 kk code ml own nm ret h p l e R s m args below meth c T locs cells slots) {a : Addr} {j : Int32} {vs : List Value} {v : Value} {ty : FieldType} (hd : Dc code pc .aaload 1 pc') (A : Ary Z h a ty vs) (ht : ty.isReference = true) (hj : ¬ j < 0) (hv : vs[j.toNatClampNeg]? = some v) (K : Wp p e below P (T.setTop (mkF m pc' L (v :: S)))) : Wp p e below P (T.setTop (mkF m pc L (.int j :: .ref a :: S))) := by
  obtain ⟨hd, rfl⟩ := hd
  obtain ⟨c', A, e, -⟩ := A
  exact Wp.of (fun _ k => X.st.aaload X.hx (by rw [X.eh]; exact A.1) (State.isArrayOf_alike X.hZ.alike A.2.1) ht A.2.2 (own_inb e hj hv) (own_at e hv) (g := mkF m pc L (.int j :: .ref a :: S)) rfl rfl (X.hb hd) _ k) K
theorem w_arrlen (X : Sd Z n0 kk code ml own nm ret h p l e R s m args below meth c T locs cells slots) {a : Addr} {vs : List Value} {ty : FieldType} (n : Int32) (hd : Dc code pc .arraylength 1 pc') (A : Ary Z h a ty vs) (hn : vs.length.toInt32 = n) (K : Wp p e below P (T.setTop (mkF m pc' L (.int n :: S)))) : Wp p e below P (T.setTop (mkF m pc L (.ref a :: S))) := by
  obtain ⟨hd, rfl⟩ := hd
  obtain ⟨c', A, e, -⟩ := A
  exact Wp.of (fun _ k => X.st.arraylength X.hx (by rw [X.eh]; exact A.1) (State.isArrayOf_alike X.hZ.alike A.2.1) (g := mkF m pc L (.ref a :: S)) rfl rfl (X.hb hd) _ (by rw [Ary.size e, hn]; exact k)) K
theorem w_iastore (X : Sd Z n0 kk code ml own nm ret h p l e R s m args below meth c T locs cells slots) {a : Addr} {j : Int32} {x : Int32} {vs : List Value} {u : Value} (hd : Dc code pc .iastore 1 pc') (A : Ary Z h a .int vs) (hj : ¬ j < 0) (hv : vs[j.toNatClampNeg]? = some u) (ga : n0 ≤ a) (v' : Value) (e' : (.int x : Value) = v') (vs' : List Value) (hs : vs.set j.toNatClampNeg v' = vs') (K : ∀ T' h', Sd Z n0 kk code ml own nm ret h' p l e R s m args below meth c T' (locs ++ [⟨a, j.toNatClampNeg⟩]) cells slots → Wr h h' a j.toNatClampNeg v' → Ary Z h' a .int vs' → Wp p e below P (T'.setTop (mkF m pc' L S))) : Wp p e below P (T.setTop (mkF m pc L (.int x :: .int j :: .ref a :: S))) := by
  subst e' hs
  obtain ⟨hd, rfl⟩ := hd
  have A0 := A
  obtain ⟨c', A, e, -⟩ := A
  obtain ⟨T', h', X', e', W, st⟩ := stI X.st X.hx X.hZ X.eh A (own_inb e hj hv) (g := mkF m pc L (.int x :: .int j :: .ref a :: S)) rfl rfl (X.hb hd)
  exact Wp.of st (K T' h' (X.mk' X' e' (Fr.snoc X' X.fr ga) (X.old.wr W ga) (Nat.le_of_eq W.size.symm)) W (A0.set rfl W))
theorem w_lastore (X : Sd Z n0 kk code ml own nm ret h p l e R s m args below meth c T locs cells slots) {a : Addr} {j : Int32} {x : Int64} {vs : List Value} {u : Value} (hd : Dc code pc .lastore 1 pc') (A : Ary Z h a .long vs) (hj : ¬ j < 0) (hv : vs[j.toNatClampNeg]? = some u) (ga : n0 ≤ a) (v' : Value) (e' : (.long x : Value) = v') (vs' : List Value) (hs : vs.set j.toNatClampNeg v' = vs') (K : ∀ T' h', Sd Z n0 kk code ml own nm ret h' p l e R s m args below meth c T' (locs ++ [⟨a, j.toNatClampNeg⟩]) cells slots → Wr h h' a j.toNatClampNeg v' → Ary Z h' a .long vs' → Wp p e below P (T'.setTop (mkF m pc' L S))) : Wp p e below P (T.setTop (mkF m pc L (.long x :: .int j :: .ref a :: S))) := by
  subst e' hs
  obtain ⟨hd, rfl⟩ := hd
  have A0 := A
  obtain ⟨c', A, e, -⟩ := A
  obtain ⟨T', h', X', e', W, st⟩ := stJ X.st X.hx X.hZ X.eh A (own_inb e hj hv) (g := mkF m pc L (.long x :: .int j :: .ref a :: S)) rfl rfl (X.hb hd)
  exact Wp.of st (K T' h' (X.mk' X' e' (Fr.snoc X' X.fr ga) (X.old.wr W ga) (Nat.le_of_eq W.size.symm)) W (A0.set rfl W))
theorem w_castore (X : Sd Z n0 kk code ml own nm ret h p l e R s m args below meth c T locs cells slots) {a : Addr} {j : Int32} {x : Int32} {vs : List Value} {u : Value} (hd : Dc code pc .castore 1 pc') (A : Ary Z h a .char vs) (hj : ¬ j < 0) (hv : vs[j.toNatClampNeg]? = some u) (ga : n0 ≤ a) (v' : Value) (e' : (.int (nar .char x) : Value) = v') (vs' : List Value) (hs : vs.set j.toNatClampNeg v' = vs') (K : ∀ T' h', Sd Z n0 kk code ml own nm ret h' p l e R s m args below meth c T' (locs ++ [⟨a, j.toNatClampNeg⟩]) cells slots → Wr h h' a j.toNatClampNeg v' → Ary Z h' a .char vs' → Wp p e below P (T'.setTop (mkF m pc' L S))) : Wp p e below P (T.setTop (mkF m pc L (.int x :: .int j :: .ref a :: S))) := by
  subst e' hs
  obtain ⟨hd, rfl⟩ := hd
  have A0 := A
  obtain ⟨c', A, e, -⟩ := A
  obtain ⟨T', h', X', e', W, st⟩ := stC X.st X.hx X.hZ X.eh A (own_inb e hj hv) (g := mkF m pc L (.int x :: .int j :: .ref a :: S)) rfl rfl (X.hb hd)
  exact Wp.of st (K T' h' (X.mk' X' e' (Fr.snoc X' X.fr ga) (X.old.wr W ga) (Nat.le_of_eq W.size.symm)) W (A0.set (fits_nar_char _) W))
theorem w_sastore (X : Sd Z n0 kk code ml own nm ret h p l e R s m args below meth c T locs cells slots) {a : Addr} {j : Int32} {x : Int32} {vs : List Value} {u : Value} (hd : Dc code pc .sastore 1 pc') (A : Ary Z h a .short vs) (hj : ¬ j < 0) (hv : vs[j.toNatClampNeg]? = some u) (ga : n0 ≤ a) (v' : Value) (e' : (.int (nar .short x) : Value) = v') (vs' : List Value) (hs : vs.set j.toNatClampNeg v' = vs') (K : ∀ T' h', Sd Z n0 kk code ml own nm ret h' p l e R s m args below meth c T' (locs ++ [⟨a, j.toNatClampNeg⟩]) cells slots → Wr h h' a j.toNatClampNeg v' → Ary Z h' a .short vs' → Wp p e below P (T'.setTop (mkF m pc' L S))) : Wp p e below P (T.setTop (mkF m pc L (.int x :: .int j :: .ref a :: S))) := by
  subst e' hs
  obtain ⟨hd, rfl⟩ := hd
  have A0 := A
  obtain ⟨c', A, e, -⟩ := A
  obtain ⟨T', h', X', e', W, st⟩ := stS X.st X.hx X.hZ X.eh A (own_inb e hj hv) (g := mkF m pc L (.int x :: .int j :: .ref a :: S)) rfl rfl (X.hb hd)
  exact Wp.of st (K T' h' (X.mk' X' e' (Fr.snoc X' X.fr ga) (X.old.wr W ga) (Nat.le_of_eq W.size.symm)) W (A0.set (fits_nar_short _) W))
theorem w_bastore (X : Sd Z n0 kk code ml own nm ret h p l e R s m args below meth c T locs cells slots) {a : Addr} {j : Int32} {x : Int32} {vs : List Value} {u : Value} (hd : Dc code pc .bastore 1 pc') (A : Ary Z h a .byte vs) (hj : ¬ j < 0) (hv : vs[j.toNatClampNeg]? = some u) (ga : n0 ≤ a) (v' : Value) (e' : (.int (nar .byte x) : Value) = v') (vs' : List Value) (hs : vs.set j.toNatClampNeg v' = vs') (K : ∀ T' h', Sd Z n0 kk code ml own nm ret h' p l e R s m args below meth c T' (locs ++ [⟨a, j.toNatClampNeg⟩]) cells slots → Wr h h' a j.toNatClampNeg v' → Ary Z h' a .byte vs' → Wp p e below P (T'.setTop (mkF m pc' L S))) : Wp p e below P (T.setTop (mkF m pc L (.int x :: .int j :: .ref a :: S))) := by
  subst e' hs
  obtain ⟨hd, rfl⟩ := hd
  have A0 := A
  obtain ⟨c', A, e, -⟩ := A
  obtain ⟨T', h', X', e', W, st⟩ := stB X.st X.hx X.hZ X.eh A (own_inb e hj hv) (g := mkF m pc L (.int x :: .int j :: .ref a :: S)) rfl rfl (X.hb hd)
  exact Wp.of st (K T' h' (X.mk' X' e' (Fr.snoc X' X.fr ga) (X.old.wr W ga) (Nat.le_of_eq W.size.symm)) W (A0.set (fits_nar_byte _) W))
theorem w_zastore (X : Sd Z n0 kk code ml own nm ret h p l e R s m args below meth c T locs cells slots) {a : Addr} {j : Int32} {x : Int32} {vs : List Value} {u : Value} (hd : Dc code pc .bastore 1 pc') (A : Ary Z h a .boolean vs) (hj : ¬ j < 0) (hv : vs[j.toNatClampNeg]? = some u) (ga : n0 ≤ a) (v' : Value) (e' : (.int (nar .boolean x) : Value) = v') (vs' : List Value) (hs : vs.set j.toNatClampNeg v' = vs') (K : ∀ T' h', Sd Z n0 kk code ml own nm ret h' p l e R s m args below meth c T' (locs ++ [⟨a, j.toNatClampNeg⟩]) cells slots → Wr h h' a j.toNatClampNeg v' → Ary Z h' a .boolean vs' → Wp p e below P (T'.setTop (mkF m pc' L S))) : Wp p e below P (T.setTop (mkF m pc L (.int x :: .int j :: .ref a :: S))) := by
  subst e' hs
  obtain ⟨hd, rfl⟩ := hd
  have A0 := A
  obtain ⟨c', A, e, -⟩ := A
  obtain ⟨T', h', X', e', W, st⟩ := stZ X.st X.hx X.hZ X.eh A (own_inb e hj hv) (g := mkF m pc L (.int x :: .int j :: .ref a :: S)) rfl rfl (X.hb hd)
  exact Wp.of st (K T' h' (X.mk' X' e' (Fr.snoc X' X.fr ga) (X.old.wr W ga) (Nat.le_of_eq W.size.symm)) W (A0.set (fits_nar_bool _) W))
theorem w_cast (X : Sd Z n0 kk code ml own nm ret h p l e R s m args below meth c T locs cells slots) {K0 : String} {index : Nat} {a : Addr} (hd : Dc code pc (.checkcast index) 3 pc') (w : (Cond.classLink own index K0).before a0 Z = true) (F : Ins Z h a K0 true) (K : ∀ T', Sd Z n0 kk code ml own nm ret h p l e R s m args below meth c T' locs cells slots → Wp p e below P (T'.setTop (mkF m pc' L (.ref a :: S)))) : Wp p e below P (T.setTop (mkF m pc L (.ref a :: S))) := by
  obtain ⟨hd, rfl⟩ := hd
  obtain ⟨T', X', e', st⟩ := castY X.st X.hx X.hZ X.hown w X.eh F (g := mkF m pc L (.ref a :: S)) rfl rfl (X.hb hd)
  exact Wp.of st (K T' (X.mk' X' e' X.fr X.old (Nat.le_refl _)))
theorem w_inst (X : Sd Z n0 kk code ml own nm ret h p l e R s m args below meth c T locs cells slots) {K0 : String} {index : Nat} {a : Addr} (hd : Dc code pc (.instanceof index) 3 pc') (w : (Cond.classLink own index K0).before a0 Z = true) (F : Ins Z h a K0 true) (K : ∀ T', Sd Z n0 kk code ml own nm ret h p l e R s m args below meth c T' locs cells slots → Wp p e below P (T'.setTop (mkF m pc' L (.int (1 : Int32) :: S)))) : Wp p e below P (T.setTop (mkF m pc L (.ref a :: S))) := by
  obtain ⟨hd, rfl⟩ := hd
  obtain ⟨T', X', e', st⟩ := instY X.st X.hx X.hZ X.hown w X.eh F (g := mkF m pc L (.ref a :: S)) rfl rfl (X.hb hd)
  exact Wp.of st (K T' (X.mk' X' e' X.fr X.old (Nat.le_refl _)))
end StepsA
end Jvm.RoadKit
namespace Jvm.RoadKit
open Sem ClassFile Op Lib Jvm.Stand Jvm.Free Jvm.LawKit
def PoW (Z : State) (n0 : Nat) (s : State) (Q : Option Value → Heap → Prop) (ce sl : Nat) : State → Outcome → Prop := fun U o => ∃ v L, o = .returned v ∧ (Fr n0 L ∧ Old Z n0 U.heap ∧ s.heap.size ≤ U.heap.size ∧ Q v U.heap) ∧ ReturnedEndW s o U L ce sl
def DoesW (l : Launch) (Z : State) (n0 : Nat) (y : MethodName) (code : ByteArray) (ml : Nat) (ret : Option FieldType) (ws : List Cond) (rm : Room) (as' : Array Value) (h0 : Heap) (Q : Option Value → Heap → Prop) : Prop :=
  Old Z n0 h0 → MetFree l y (head1 (Cond.code y code ml ret :: ws) rm) (fun a U => a = as' ∧ Z.Warmed39 U.vm ∧ U.heap = h0) (fun _ _ _ _ _ => True) (fun _ U o U' => ∃ v L, o = .returned v ∧ (Fr n0 L ∧ Old Z n0 U'.heap ∧ h0.size ≤ U'.heap.size ∧ Q v U'.heap) ∧ ReturnedEndW U o U' L rm.cells rm.slots)
theorem DoesW.start {l : Launch} {Z : State} {n0 : Nat} {y : MethodName} {code : ByteArray} {ml : Nat} {ret : Option FieldType} {ws : List Cond} {rm : Room} {as' : Array Value} {h0 : Heap} {Q : Option Value → Heap → Prop} (hp : plainFor y = true)
    (body : ∀ p e s m below meth c s₁, Sd Z n0 0 code ml y.cls y.name ret h0 p l e rm (s.setVm s.vm) m as' below meth c s₁ [] 0 0 → s.Since s.vm 0 → s.heap = h0 → Wp p e below (PoW Z n0 s Q rm.cells rm.slots) (s₁.setTop (entryFrame m as' ml))) : DoesW l Z n0 y code ml ret ws rm as' h0 Q := by
  intro hold
  refine MetFree.of_bodySF hp hisR ?_
  intro p e s m args below meth c s₁ Bd hml0 hP hK
  obtain ⟨rfl, hZ, hh⟩ := hP
  have hh' := hh
  subst hh
  exact body p e s m below meth c s₁ ⟨Stand.of_body Bd, ⟨Bd.exec, Bd.bytes, hml0, findClass_of_methodNamed Bd.named, hZ, Bd.returns, (name_of_methodNamed Bd.named Bd.method).1, Bd.notSynchronized⟩, by rw [Bd.state]; rfl, Fr.nil n0, hold, Nat.zero_le _⟩ ((State.WarmedH.refl s).since 0) rfl
theorem DoesW.mono {l : Launch} {Z : State} {n0 : Nat} {y : MethodName} {code : ByteArray} {ml : Nat} {ret : Option FieldType} {ws : List Cond} {rm : Room} {as' : Array Value} {h0 : Heap} {Q Q' : Option Value → Heap → Prop} (D : DoesW l Z n0 y code ml ret ws rm as' h0 Q) (f : ∀ v h, Q v h → Q' v h) : DoesW l Z n0 y code ml ret ws rm as' h0 Q' := by
  intro hold p e ha hc hk s m args below hf happ hP hK
  obtain ⟨n, o, h1, h2, h3, v, L, e1, ⟨q1, q2, q2', q3⟩, q4⟩ := D hold p e ha hc hk s m args below hf happ hP hK
  exact ⟨n, o, h1, h2, h3, v, L, e1, ⟨q1, q2, q2', f _ _ q3⟩, q4⟩
/-- the law's own contract: at the start Z itself -/
def DoesL (l : Launch) (Z : State) (n0 : Nat) (y : MethodName) (code : ByteArray) (ml : Nat) (ret : Option FieldType) (ws : List Cond) (rm : Room) (as' : Array Value) (Q : Option Value → Heap → Prop) : Prop :=
  MetFree l y (head1 (Cond.code y code ml ret :: ws) rm) (fun a U => a = as' ∧ U = Z) (fun _ _ _ _ _ => True) (fun _ U o U' => ∃ v L, o = .returned v ∧ (Fr n0 L ∧ Old Z n0 U'.heap ∧ U.heap.size ≤ U'.heap.size ∧ Q v U'.heap) ∧ ReturnedEndW U o U' L rm.cells rm.slots)
theorem DoesL.start {l : Launch} {Z : State} {n0 : Nat} {y : MethodName} {code : ByteArray} {ml : Nat} {ret : Option FieldType} {ws : List Cond} {rm : Room} {as' : Array Value} {Q : Option Value → Heap → Prop} (hn0 : Z.heap.size = n0) (hp : plainFor y = true)
    (body : ∀ p e s m below meth c s₁, Sd Z n0 0 code ml y.cls y.name ret Z.heap p l e rm (s.setVm s.vm) m as' below meth c s₁ [] 0 0 → s.Since s.vm 0 → s = Z → Wp p e below (PoW Z n0 s Q rm.cells rm.slots) (s₁.setTop (entryFrame m as' ml))) : DoesL l Z n0 y code ml ret ws rm as' Q := by
  refine MetFree.of_bodySF hp hisR ?_
  intro p e s m args below meth c s₁ Bd hml0 hP hK
  obtain ⟨rfl, hh⟩ := hP
  have hh' := hh
  subst hh
  exact body p e s m below meth c s₁ ⟨Stand.of_body Bd, ⟨Bd.exec, Bd.bytes, hml0, findClass_of_methodNamed Bd.named, State.Warmed39.refl s, Bd.returns, (name_of_methodNamed Bd.named Bd.method).1, Bd.notSynchronized⟩, by rw [Bd.state]; rfl, Fr.nil n0, hn0 ▸ Old.start s, Nat.zero_le _⟩ ((State.WarmedH.refl s).since 0) rfl
section StepsW
variable {Z : State} {n0 kk : Nat} {code : ByteArray} {ml : Nat} {own nm : String} {ret : Option FieldType} {h : Heap} {p : Program} {l : Launch} {e : Env} {R : Room} {s : State} {m : MethodId} {args : Array Value} {below : List Frame} {meth : Method} {c : Code} {T : State} {locs : List Loc} {cells slots : Nat} {P : State → Outcome → Prop} {a0 : Array Value} {u : Vm} {pc pc' : Nat} {L : Array Slot} {S : List Value} {Q : Option Value → Heap → Prop} {ce sl : Nat}
theorem Sd.doneW (X : Sd Z n0 kk code ml own nm ret h p l e R (s.setVm u) m args below meth c T locs cells slots) (Y : s.Since u kk) {v : Option Value} (hv : ret = none → v = none) (hq : Q v h) (hc : cells ≤ ce) (hs : slots ≤ sl) {g : JFrame} (step : ∀ fs, (∀ (f : JFrame) (acts : List Action), f.method = m → f.locked = none → f.entered = [] → (doReturn e (T.setTop f) acts v).1 = T.setFrames fs) → Steps p.tables e below (T.setTop g) (T.setFrames fs)) : Wp p e below (PoW Z n0 s Q ce sl) (T.setTop g) := by
  obtain ⟨fs, hr, hrun, hended, hE⟩ := X.st.leaveW Y (by rw [X.eh]; exact X.hkk) (v := v) (fun q => hv (X.hret ▸ q)) X.hlk
  have e1 : (T.setFrames fs).heap = h := X.eh
  refine ⟨_, _, step fs hr, hrun, hended, v, locs, rfl, ⟨X.fr, ?_, X.st.same.2.1, ?_⟩, hE.1, hE.2.1, hE.2.2.1, hE.2.2.2.mono hc hs⟩
  · rw [e1]; exact X.old
  · rw [e1]; exact hq
theorem v_retI (X : Sd Z n0 kk code ml own nm (some .int) h p l e R (s.setVm u) m args below meth c T locs cells slots) (Y : s.Since u kk) {z : Int32} (hd : Dc code pc .ireturn 1 pc') (hq : Q (some (.int z)) h) (hc : cells ≤ ce) (hs : slots ≤ sl) : Wp p e below (PoW Z n0 s Q ce sl) (T.setTop (mkF m pc L (.int z :: S))) :=
  X.doneW Y nofun hq hc hs fun fs hr => retOut X.st X.hx X.hret rfl (Or.inl ⟨rfl, Or.inl rfl, z, rfl⟩) (X.hb hd.1) hr
theorem v_ret_boolean (X : Sd Z n0 kk code ml own nm (some .boolean) h p l e R (s.setVm u) m args below meth c T locs cells slots) (Y : s.Since u kk) {z : Int32} (z' : Int32) (hz : nar .boolean z = z') (hd : Dc code pc .ireturn 1 pc') (hq : Q (some (.int z')) h) (hc : cells ≤ ce) (hs : slots ≤ sl) : Wp p e below (PoW Z n0 s Q ce sl) (T.setTop (mkF m pc L (.int z :: S))) := by
  subst hz
  exact X.doneW Y nofun hq hc hs fun fs hr => retN X.st X.hx X.hret (by simp) (X.hb hd.1) hr
theorem v_ret_byte (X : Sd Z n0 kk code ml own nm (some .byte) h p l e R (s.setVm u) m args below meth c T locs cells slots) (Y : s.Since u kk) {z : Int32} (z' : Int32) (hz : nar .byte z = z') (hd : Dc code pc .ireturn 1 pc') (hq : Q (some (.int z')) h) (hc : cells ≤ ce) (hs : slots ≤ sl) : Wp p e below (PoW Z n0 s Q ce sl) (T.setTop (mkF m pc L (.int z :: S))) := by
  subst hz
  exact X.doneW Y nofun hq hc hs fun fs hr => retN X.st X.hx X.hret (by simp) (X.hb hd.1) hr
theorem v_ret_char (X : Sd Z n0 kk code ml own nm (some .char) h p l e R (s.setVm u) m args below meth c T locs cells slots) (Y : s.Since u kk) {z : Int32} (z' : Int32) (hz : nar .char z = z') (hd : Dc code pc .ireturn 1 pc') (hq : Q (some (.int z')) h) (hc : cells ≤ ce) (hs : slots ≤ sl) : Wp p e below (PoW Z n0 s Q ce sl) (T.setTop (mkF m pc L (.int z :: S))) := by
  subst hz
  exact X.doneW Y nofun hq hc hs fun fs hr => retN X.st X.hx X.hret (by simp) (X.hb hd.1) hr
theorem v_ret_short (X : Sd Z n0 kk code ml own nm (some .short) h p l e R (s.setVm u) m args below meth c T locs cells slots) (Y : s.Since u kk) {z : Int32} (z' : Int32) (hz : nar .short z = z') (hd : Dc code pc .ireturn 1 pc') (hq : Q (some (.int z')) h) (hc : cells ≤ ce) (hs : slots ≤ sl) : Wp p e below (PoW Z n0 s Q ce sl) (T.setTop (mkF m pc L (.int z :: S))) := by
  subst hz
  exact X.doneW Y nofun hq hc hs fun fs hr => retN X.st X.hx X.hret (by simp) (X.hb hd.1) hr
theorem v_retJ (X : Sd Z n0 kk code ml own nm (some .long) h p l e R (s.setVm u) m args below meth c T locs cells slots) (Y : s.Since u kk) {z : Int64} (hd : Dc code pc .lreturn 1 pc') (hq : Q (some (.long z)) h) (hc : cells ≤ ce) (hs : slots ≤ sl) : Wp p e below (PoW Z n0 s Q ce sl) (T.setTop (mkF m pc L (.long z :: S))) :=
  X.doneW Y nofun hq hc hs fun fs hr => retOut X.st X.hx X.hret rfl (Or.inr (Or.inl ⟨rfl, rfl, z, rfl⟩)) (X.hb hd.1) hr
theorem v_retR (X : Sd Z n0 kk code ml own nm ret h p l e R (s.setVm u) m args below meth c T locs cells slots) (Y : s.Since u kk) {t : FieldType} {z : Value} (ht : t.isReference = true) (hz : z.isRef = true) (hret : ret = some t) (hd : Dc code pc .areturn 1 pc') (hq : Q (some z) h) (hc : cells ≤ ce) (hs : slots ≤ sl) : Wp p e below (PoW Z n0 s Q ce sl) (T.setTop (mkF m pc L (z :: S))) := by
  subst hret
  exact X.doneW Y nofun hq hc hs fun fs hr => retOut X.st X.hx X.hret (by rcases ref_cases hz with rfl | ⟨z, rfl⟩ <;> cases t <;> first | rfl | cases ht) (Or.inr (Or.inr (Or.inr (Or.inr ⟨rfl, ht, hz⟩)))) (X.hb hd.1) hr
theorem v_retV (X : Sd Z n0 kk code ml own nm (none) h p l e R (s.setVm u) m args below meth c T locs cells slots) (Y : s.Since u kk) (hd : Dc code pc .return_ 1 pc') (hq : Q none h) (hc : cells ≤ ce) (hs : slots ≤ sl) : Wp p e below (PoW Z n0 s Q ce sl) (T.setTop (mkF m pc L [])) :=
  X.doneW Y (fun _ => rfl) hq hc hs fun fs hr => X.st.returnOut X.hx X.hret (X.hb hd.1) hr
theorem v_ldcS (X : Sd Z n0 kk code ml own nm ret h p l e R (s.setVm u) m args below meth c T locs cells slots) (Y : s.Since u kk) {index : Nat} {text : String} (hd : Dc code pc (.ldc index) 2 pc') (w1 : (Cond.stringLink own index text).before a0 Z = true) (wS : ∀ a ∈ Bundle.stringAtoms, a.before a0 Z = true) (n : Nat) (hn : 4 * text.toList.length ≤ n) (hbig : n ≤ 536870912) (hc : cells + 2 ≤ R.cells) (hl : slots + (n + 4) ≤ R.slots) (K : ∀ T' h' u' kk' a, Sd Z n0 kk' code ml own nm ret h' p l e R (s.setVm u') m args below meth c T' locs (cells + 2) (slots + (n + 4)) → s.Since u' kk' → Ext h h' → Wp p e below P (T'.setTop (mkF m pc' L (.ref a :: S)))) : Wp p e below P (T.setTop (mkF m pc L S)) := by
  obtain ⟨hd, rfl⟩ := hd
  obtain ⟨a, T', h', k1, X', e', E, Y', hk, hZ', ho', st⟩ := ldcS X.st X.hx X.hZ X.hown w1 wS X.eh Y X.hkk (g := mkF m pc L S) rfl (X.hb hd) hn hbig hc hl
  exact Wp.of st (K T' h' T'.vm k1 a ⟨X', ⟨X.hx, X.2.1.2.1, X.hml, ho', hZ', X.hret, X.hnm, X.hlk⟩, e', X.fr, X.old.ext E, hk⟩ Y' E)
theorem v_ldcT (X : Sd Z n0 kk code ml own nm ret h p l e R (s.setVm u) m args below meth c T locs cells slots) (Y : s.Since u kk) {index : Nat} {text : String} {Ts : List String} (hd : Dc code pc (.ldc index) 2 pc') (w1 : (Cond.stringLink own index text).before a0 Z = true) (wS : ∀ a ∈ Bundle.stringAtoms, a.before a0 Z = true) (hZs : Z.heap.size = n0) (hs0 : s.heap.size = n0) (hkeep : ∀ (b : Addr) (cl : Cell), Z.heap[b]? = some cl → s.heap[b]? = some cl) (I : IB Z u Ts) (hnot : text ∉ Ts) (hh : Jvm.Lit.constHeld Z own index) (hcw : Jvm.Lit.compactW.before a0 Z = true) (vs : List Value) (z : Int32) (ht : (∀ c ∈ text.toList, c.toNat < 256) ∧ text.toList.map (fun c => Value.int (Jvm.Lit.byteI c.toNat.toUInt16)) = vs) (hz : ¬ z < 0) (hzl : z.toNatClampNeg = vs.length) (n : Nat) (hn : 4 * text.toList.length ≤ n) (hbig : n ≤ 536870912) (hc : cells + 2 ≤ R.cells) (hl : slots + (n + 4) ≤ R.slots) (K : ∀ T' h' u' kk' a b, Sd Z n0 kk' code ml own nm ret h' p l e R (s.setVm u') m args below meth c T' locs (cells + 2) (slots + (n + 4)) → s.Since u' kk' → Ext h h' → Exa Z h' a "java/lang/String" → Fld Z h' a "java/lang/String" "coder" "B" (.int 0) → Fld Z h' a "java/lang/String" "value" "[B" (.ref b) → Ary Z h' b .byte vs → IB Z u' (text :: Ts) → Wp p e below P (T'.setTop (mkF m pc' L (.ref a :: S)))) : Wp p e below P (T.setTop (mkF m pc L S)) := by
  obtain ⟨hd, rfl⟩ := hd
  obtain ⟨a, T', h', k1, b, k, X', e', E, Y', hk, hZ', ho', r8, r9, r10, r11, -, -, r14, st⟩ := ldcSV (s := s) X.st X.hx X.hZ X.hown w1 wS X.eh Y X.hkk (by show Fr s.heap.size locs; rw [hs0]; exact X.fr) hkeep I hnot hh hcw ht hz hzl (g := mkF m pc L S) rfl (X.hb hd) hn hbig hc hl
  exact Wp.of st (K T' h' T'.vm k1 a b ⟨X', ⟨X.hx, X.2.1.2.1, X.hml, ho', hZ', X.hret, X.hnm, X.hlk⟩, e', X.fr, X.old.ext E, hk⟩ Y' E r8 r9 r10 (Ary.ofArv r11 hzl) r14)
theorem v_callS (X : Sd Z n0 kk code ml own nm ret h p l e R (s.setVm u) m args below meth c T locs cells slots) (Y : s.Since u kk) {y : MethodName} {bytes : ByteArray} {maxL : Nat} {ret' : Option FieldType} {rm : Room} {index : Nat} {Q' : Option Value → Heap → Prop} {ps : List FieldType} {rr : Option FieldType} {stk : List Value} (hd : Dc code pc (.invokestatic index) 3 pc') (w1 : (Cond.methodLink own index y).before a0 Z = true) (w2 : (Cond.static y).before a0 Z = true) (w3 : (Cond.initialized y.cls).before a0 Z = true) (w4 : (Cond.code y bytes maxL ret').before a0 Z = true) (hy : y.cls ≠ "java/lang/invoke/MethodHandle" ∧ y.cls ≠ "java/lang/invoke/VarHandle") {argsL : List Value} (D : DoesW l Z n0 y bytes maxL ret' [] rm argsL.toArray h Q') (hpd : parseMethodDescriptor y.desc = some ⟨ps, rr⟩) (hlen : argsL.length = ps.length) (hst : stk = argsL.reverse ++ S) (hsz : L.size = ml) (hf : rm.frames + 1 ≤ R.frames) (hl : (S.map fun v => v.category).sum + (maxL + 11) + rm.locals ≤ R.locals) (hc : cells + rm.cells ≤ R.cells) (hs : slots + rm.slots ≤ R.slots) (K : ∀ T' h' v L' u' kk', Sd Z n0 kk' code ml own nm ret h' p l e R (s.setVm u') m args below meth c T' (locs ++ L') (cells + rm.cells) (slots + rm.slots) → s.Since u' kk' → Q' v h' → Wp p e below P (T'.setTop (mkF m pc' L (v.toList ++ S)))) : Wp p e below P (T.setTop (mkF m pc L stk)) := by
  obtain ⟨hd, rfl⟩ := hd
  obtain ⟨v, vm1, ⟨T', L1, k1, n1⟩, -, X', hS', hgr, ⟨Lc, hQ, l1, y1, z1⟩, st⟩ := callSS X.st X.hx X.hown (mvT X.hZ w1) (mvT X.hZ w2) (mvT X.hZ w3) (mvT X.hZ w4) hy (backOfS (Q := fun v h' L => Fr n0 L ∧ Old Z n0 h' ∧ h.size ≤ h'.size ∧ Q' v h') (W := (S.map fun v => v.category).sum) (D X.old) X.hZ w4 w3 hf hl) (g := mkF m pc L stk) rfl (by rw [X.hml]; exact hsz) (argsL := argsL) (rest := S) (lenOf hpd hlen) hst (by show 2 * 0 + _ ≤ _; omega) (X.hb hd) (fun _ _ => ⟨rfl, X.eh, hc, hs⟩)
  dsimp only [Pt.U, Pt.locs, Pt.cells, Pt.slots] at X' hS' hgr l1 y1 z1 st hQ
  subst l1 y1 z1
  exact Wp.tr st (K T' _ v Lc T'.vm T'.heap.size ⟨X', ⟨X.hx, X.2.1.2.1, X.hml, (hS'.1.alike.findClass _ _).trans X.hown, State.Warmed39.trans X.hZ hS'.1, X.hret, X.hnm, X.hlk⟩, rfl, X.fr.app hQ.1, hQ.2.1, Nat.le_refl _⟩ (Y.trans hS' (Nat.le_trans X.hkk (X.eh ▸ hgr))) hQ.2.2.2)
theorem v_callI (X : Sd Z n0 kk code ml own nm ret h p l e R (s.setVm u) m args below meth c T locs cells slots) (Y : s.Since u kk) {y : MethodName} {bytes : ByteArray} {maxL : Nat} {rm : Room} {index : Nat} {Q' : Option Value → Heap → Prop} {ps : List FieldType} {rr : Option FieldType} {stk : List Value} (hd : Dc code pc (.invokespecial index) 3 pc') (hi : y.name = "<init>") (w1 : (Cond.methodLink own index y).before a0 Z = true) (w2 : (Cond.instanceMethod y).before a0 Z = true) (w3 : (Cond.initialized y.cls).before a0 Z = true) (w4 : (Cond.code y bytes maxL none).before a0 Z = true) (hy : y.cls ≠ "java/lang/invoke/MethodHandle" ∧ y.cls ≠ "java/lang/invoke/VarHandle") {a : Addr} {argsL : List Value} (D : DoesW l Z n0 y bytes maxL none [] rm (.ref a :: argsL).toArray h Q') (hpd : parseMethodDescriptor y.desc = some ⟨ps, rr⟩) (hlen : argsL.length = ps.length) (hst : stk = argsL.reverse ++ .ref a :: S) (hsz : L.size = ml) (hf : rm.frames + 1 ≤ R.frames) (hl : (S.map fun v => v.category).sum + (maxL + 11) + rm.locals ≤ R.locals) (hc : cells + rm.cells ≤ R.cells) (hs : slots + rm.slots ≤ R.slots) (K : ∀ T' h' v L' u' kk', Sd Z n0 kk' code ml own nm ret h' p l e R (s.setVm u') m args below meth c T' (locs ++ L') (cells + rm.cells) (slots + rm.slots) → s.Since u' kk' → Q' v h' → Wp p e below P (T'.setTop (mkF m pc' L (v.toList ++ S)))) : Wp p e below P (T.setTop (mkF m pc L stk)) := by
  obtain ⟨hd, rfl⟩ := hd
  obtain ⟨v, vm1, ⟨T', L1, k1, n1⟩, -, X', hS', hgr, ⟨Lc, hQ, l1, y1, z1⟩, st⟩ := X.st.specialBackS X.hx hi X.hown (mvT X.hZ w1) (mvT X.hZ w2) (mvT X.hZ w4) hy (backOfS (Q := fun v h' L => Fr n0 L ∧ Old Z n0 h' ∧ h.size ≤ h'.size ∧ Q' v h') (W := (S.map fun v => v.category).sum) (D X.old) X.hZ w4 w3 hf hl) (g := mkF m pc L stk) rfl (by rw [X.hml]; exact hsz) (Steps.refl _) (a := a) (argsL := argsL) (rest := S) (lenOf hpd hlen) hst (by show 2 * 0 + _ ≤ _; omega) (X.hb hd) (fun _ _ => ⟨rfl, X.eh, hc, hs⟩)
  dsimp only [Pt.U, Pt.locs, Pt.cells, Pt.slots] at X' hS' hgr l1 y1 z1 st hQ
  subst l1 y1 z1
  exact Wp.tr st (K T' _ v Lc T'.vm T'.heap.size ⟨X', ⟨X.hx, X.2.1.2.1, X.hml, (hS'.1.alike.findClass _ _).trans X.hown, State.Warmed39.trans X.hZ hS'.1, X.hret, X.hnm, X.hlk⟩, rfl, X.fr.app hQ.1, hQ.2.1, Nat.le_refl _⟩ (Y.trans hS' (Nat.le_trans X.hkk (X.eh ▸ hgr))) hQ.2.2.2)
theorem v_callV (X : Sd Z n0 kk code ml own nm ret h p l e R (s.setVm u) m args below meth c T locs cells slots) (Y : s.Since u kk) {y : MethodName} {bytes : ByteArray} {maxL : Nat} {ret' : Option FieldType} {rm : Room} {index : Nat} {Q' : Option Value → Heap → Prop} {ps : List FieldType} {rr : Option FieldType} {stk : List Value} {z : MethodName} {C : String} (hd : Dc code pc (.invokevirtual index) 3 pc') (w1 : (Cond.methodLink own index y).before a0 Z = true) (wd : (Cond.declares y).before a0 Z = true) (hnf : NotFace (s.setVm u) y) (ws : (Cond.selects C y z).before a0 Z = true) (w2 : (Cond.instanceMethod z).before a0 Z = true) (w3 : (Cond.initialized z.cls).before a0 Z = true) (w4 : (Cond.code z bytes maxL ret').before a0 Z = true) (hy : y.cls ≠ "java/lang/invoke/MethodHandle" ∧ y.cls ≠ "java/lang/invoke/VarHandle") {a : Addr} (E : Exa Z h a C) {argsL : List Value} (D : DoesW l Z n0 z bytes maxL ret' [] rm (.ref a :: argsL).toArray h Q') (hpd : parseMethodDescriptor y.desc = some ⟨ps, rr⟩) (hlen : argsL.length = ps.length) (hst : stk = argsL.reverse ++ .ref a :: S) (hsz : L.size = ml) (hf : rm.frames + 1 ≤ R.frames) (hl : (S.map fun v => v.category).sum + (maxL + 11) + rm.locals ≤ R.locals) (hc : cells + rm.cells ≤ R.cells) (hs : slots + rm.slots ≤ R.slots) (K : ∀ T' h' v L' u' kk', Sd Z n0 kk' code ml own nm ret h' p l e R (s.setVm u') m args below meth c T' (locs ++ L') (cells + rm.cells) (slots + rm.slots) → s.Since u' kk' → Q' v h' → Wp p e below P (T'.setTop (mkF m pc' L (v.toList ++ S)))) : Wp p e below P (T.setTop (mkF m pc L stk)) := by
  obtain ⟨hd, rfl⟩ := hd
  obtain ⟨cq, kq, qa, qb, qc⟩ := isOf X.hZ X.eh E
  obtain ⟨v, vm1, ⟨T', L1, k1, n1⟩, -, X', hS', hgr, ⟨Lc, hQ, l1, y1, z1⟩, st⟩ := X.st.virtualBackS X.hx X.hown (mvT X.hZ w1) (mvT X.hZ wd) hnf (mvT X.hZ ws) (mvT X.hZ w2) hy (backOfS (Q := fun v h' L => Fr n0 L ∧ Old Z n0 h' ∧ h.size ≤ h'.size ∧ Q' v h') (W := (S.map fun v => v.category).sum) (D X.old) X.hZ w4 w3 hf hl) qa qc (g := mkF m pc L stk) rfl (by rw [X.hml]; exact hsz) (Steps.refl _) (argsL := argsL) (rest := S) (lenOf hpd hlen) hst (by show 2 * 0 + _ ≤ _; omega) (X.hb hd) (fun _ _ => ⟨rfl, X.eh, hc, hs⟩)
  dsimp only [Pt.U, Pt.locs, Pt.cells, Pt.slots] at X' hS' hgr l1 y1 z1 st hQ
  subst l1 y1 z1
  exact Wp.tr st (K T' _ v Lc T'.vm T'.heap.size ⟨X', ⟨X.hx, X.2.1.2.1, X.hml, (hS'.1.alike.findClass _ _).trans X.hown, State.Warmed39.trans X.hZ hS'.1, X.hret, X.hnm, X.hlk⟩, rfl, X.fr.app hQ.1, hQ.2.1, Nat.le_refl _⟩ (Y.trans hS' (Nat.le_trans X.hkk (X.eh ▸ hgr))) hQ.2.2.2)
end StepsW
end Jvm.RoadKit
namespace Jvm.RoadKit
theorem own_eqI {args : Array Value} {first s : State} {o : Option Outcome} {idx : List Nat} {a b : Term} {x y : Int32} (ha : a.eval args first o idx s = some (.int x)) (hb : b.eval args first o idx s = some (.int y)) : (Cond.eq a b).value args first o s idx = some (decide (x = y)) := by simp [Cond.value, ha, hb]
end Jvm.RoadKit
namespace Jvm.Pilot.@@N@@
open Jvm Jvm.ClassFile Sem Op Lib Jvm.Free Jvm.Stand Jvm.LawKit Jvm.RoadKit Bundle Jvm.Pilot.@@N@@.Jvm.D
theorem own_nar_c (x : Int32) : nar .char (x.toUInt32.toUInt16.toUInt32.toInt32) = x.toUInt32.toUInt16.toUInt32.toInt32 := by
  show ((x.toUInt32.toUInt16.toUInt32.toInt32).toUInt32.toUInt16.toUInt32.toInt32) = _
  simp only [UInt32.toUInt32_toInt32, UInt16.toUInt16_toUInt32]
theorem own_nar_b (x : Int32) : nar .byte (x.toInt8.toInt32) = x.toInt8.toInt32 := by
  show (x.toInt8.toInt32).toInt8.toInt32 = _
  simp
theorem own_le255 (x : Int32) : ¬ (255 : Int32) < (x &&& (255 : Int32)).toUInt32.toUInt16.toUInt32.toInt32 := by
  have h := Jvm.Kit.i32_mask x 255 (k := 8) (by decide) (by decide)
  have q := c_i2c (x &&& (255 : Int32))
  rw [Int32.lt_iff_toInt_lt, show (255 : Int32).toInt = 255 from rfl]
  omega
theorem own_eqJ {args : Array Value} {first s : State} {o : Option Outcome} {idx : List Nat} {a b : Jvm.Term} {x y : Int64} (ha : a.eval args first o idx s = some (.long x)) (hb : b.eval args first o idx s = some (.long y)) : (Jvm.Cond.eq a b).value args first o s idx = some (decide (x = y)) := by simp [Jvm.Cond.value, ha, hb]
theorem own_fldI {s : State} {args : Array Value} {t : Jvm.Term} {a : Addr} {C n d : String} {o : Int32} (e : t.eval args s none [] s = s.fieldOf? a C n d) (h : (Jvm.Cond.eq t (Jvm.Term.int o)).value args s none s [] = some true) : Fld s s.heap a C n d (.int o) := by
  obtain ⟨x, y, h1, h2, k1, k2⟩ := cmp_v (Or.inl h)
  cases h2
  cases x <;> first | (obtain ⟨z, hz⟩ := k2; cases hz; done) | skip
  rename_i z
  have q := gotT (Jvm.RoadKit.own_eqI h1 rfl) h
  subst q
  exact Fld.start (e ▸ h1)
theorem own_fldJ {s : State} {args : Array Value} {t : Jvm.Term} {a : Addr} {C n d : String} {o : Int64} (e : t.eval args s none [] s = s.fieldOf? a C n d) (h : (Jvm.Cond.eq t (Jvm.Term.long o)).value args s none s [] = some true) : Fld s s.heap a C n d (.long o) := by
  obtain ⟨x, y, h1, h2, k1, k2⟩ := cmp_v (Or.inl h)
  cases h2
  cases x <;> first | (obtain ⟨z, hz⟩ := k2; cases hz; done) | skip
  rename_i z
  have q := gotT (own_eqJ h1 rfl) h
  subst q
  exact Fld.start (e ▸ h1)
theorem wd_0 {a0 : Array Value} {Z : State} (hw : ∀ d ∈ tables_1, d.before a0 Z = true) : (Jvm.Cond.methodLink "com/example/meterwright/meterwright/snapshot/HoldingOfPinLaw" (12 : Nat) ({ cls := "com/example/meterwright/meterwright/snapshot/HoldingOfPinLaw", name := "name", desc := "(I)Ljava/lang/String;" } : Jvm.MethodName)).before a0 Z = true := hw _ (List.mem_of_getElem? (i := 0) rfl)
theorem wd_1 {a0 : Array Value} {Z : State} (hw : ∀ d ∈ tables_1, d.before a0 Z = true) : (Jvm.Cond.static ({ cls := "com/example/meterwright/meterwright/snapshot/HoldingOfPinLaw", name := "name", desc := "(I)Ljava/lang/String;" } : Jvm.MethodName)).before a0 Z = true := hw _ (List.mem_of_getElem? (i := 1) rfl)
theorem wd_2 {a0 : Array Value} {Z : State} (hw : ∀ d ∈ tables_1, d.before a0 Z = true) : (Jvm.Cond.initialized "com/example/meterwright/meterwright/snapshot/HoldingOfPinLaw").before a0 Z = true := hw _ (List.mem_of_getElem? (i := 2) rfl)
theorem wd_3 {a0 : Array Value} {Z : State} (hw : ∀ d ∈ tables_1, d.before a0 Z = true) : (Jvm.Cond.code ({ cls := "com/example/meterwright/meterwright/snapshot/HoldingOfPinLaw", name := "name", desc := "(I)Ljava/lang/String;" } : Jvm.MethodName) method_2_code (3 : Nat) (Option.some (Jvm.ClassFile.FieldType.object "java/lang/String"))).before a0 Z = true := hw _ (List.mem_of_getElem? (i := 3) rfl)
theorem wd_4 {a0 : Array Value} {Z : State} (hw : ∀ d ∈ tables_1, d.before a0 Z = true) : (Jvm.Cond.classLink "com/example/meterwright/meterwright/snapshot/HoldingOfPinLaw" (7 : Nat) "java/lang/String").before a0 Z = true := hw _ (List.mem_of_getElem? (i := 4) rfl)
theorem wd_5 {a0 : Array Value} {Z : State} (hw : ∀ d ∈ tables_1, d.before a0 Z = true) : (Jvm.Cond.instantiable "java/lang/String" (4 : Nat)).before a0 Z = true := hw _ (List.mem_of_getElem? (i := 5) rfl)
theorem wd_6 {a0 : Array Value} {Z : State} (hw : ∀ d ∈ tables_1, d.before a0 Z = true) : (Jvm.Cond.initialized "java/lang/String").before a0 Z = true := hw _ (List.mem_of_getElem? (i := 6) rfl)
theorem wd_7 {a0 : Array Value} {Z : State} (hw : ∀ d ∈ tables_1, d.before a0 Z = true) : (Jvm.Cond.arrayClass Jvm.ClassFile.FieldType.char).before a0 Z = true := hw _ (List.mem_of_getElem? (i := 7) rfl)
theorem wd_8 {a0 : Array Value} {Z : State} (hw : ∀ d ∈ tables_1, d.before a0 Z = true) : (Jvm.Cond.methodLink "com/example/meterwright/meterwright/snapshot/HoldingOfPinLaw" (9 : Nat) ({ cls := "java/lang/String", name := "<init>", desc := "([C)V" } : Jvm.MethodName)).before a0 Z = true := hw _ (List.mem_of_getElem? (i := 8) rfl)
theorem wd_9 {a0 : Array Value} {Z : State} (hw : ∀ d ∈ tables_1, d.before a0 Z = true) : (Jvm.Cond.instanceMethod ({ cls := "java/lang/String", name := "<init>", desc := "([C)V" } : Jvm.MethodName)).before a0 Z = true := hw _ (List.mem_of_getElem? (i := 9) rfl)
theorem wd_10 {a0 : Array Value} {Z : State} (hw : ∀ d ∈ tables_1, d.before a0 Z = true) : (Jvm.Cond.code ({ cls := "java/lang/String", name := "<init>", desc := "([C)V" } : Jvm.MethodName) jdk_42_method_3_code (2 : Nat) (Option.none : Option Jvm.ClassFile.FieldType)).before a0 Z = true := hw _ (List.mem_of_getElem? (i := 10) rfl)
theorem wd_11 {a0 : Array Value} {Z : State} (hw : ∀ d ∈ tables_1, d.before a0 Z = true) : (Jvm.Cond.methodLink "java/lang/String" (27 : Nat) ({ cls := "java/lang/String", name := "<init>", desc := "([CIILjava/lang/Void;)V" } : Jvm.MethodName)).before a0 Z = true := hw _ (List.mem_of_getElem? (i := 11) rfl)
theorem wd_12 {a0 : Array Value} {Z : State} (hw : ∀ d ∈ tables_1, d.before a0 Z = true) : (Jvm.Cond.instanceMethod ({ cls := "java/lang/String", name := "<init>", desc := "([CIILjava/lang/Void;)V" } : Jvm.MethodName)).before a0 Z = true := hw _ (List.mem_of_getElem? (i := 12) rfl)
theorem wd_14 {a0 : Array Value} {Z : State} (hw : ∀ d ∈ tables_1, d.before a0 Z = true) : (Jvm.Cond.code ({ cls := "java/lang/String", name := "<init>", desc := "([CIILjava/lang/Void;)V" } : Jvm.MethodName) jdk_42_method_149_code (6 : Nat) (Option.none : Option Jvm.ClassFile.FieldType)).before a0 Z = true := hw _ (List.mem_of_getElem? (i := 14) rfl)
theorem wd_15 {a0 : Array Value} {Z : State} (hw : ∀ d ∈ tables_1, d.before a0 Z = true) : (Jvm.Cond.methodLink "java/lang/String" (1 : Nat) ({ cls := "java/lang/Object", name := "<init>", desc := "()V" } : Jvm.MethodName)).before a0 Z = true := hw _ (List.mem_of_getElem? (i := 15) rfl)
theorem wd_16 {a0 : Array Value} {Z : State} (hw : ∀ d ∈ tables_1, d.before a0 Z = true) : (Jvm.Cond.instanceMethod ({ cls := "java/lang/Object", name := "<init>", desc := "()V" } : Jvm.MethodName)).before a0 Z = true := hw _ (List.mem_of_getElem? (i := 16) rfl)
theorem wd_17 {a0 : Array Value} {Z : State} (hw : ∀ d ∈ tables_1, d.before a0 Z = true) : (Jvm.Cond.code ({ cls := "java/lang/Object", name := "<init>", desc := "()V" } : Jvm.MethodName) object_method_1_code (1 : Nat) (Option.none : Option Jvm.ClassFile.FieldType)).before a0 Z = true := hw _ (List.mem_of_getElem? (i := 17) rfl)
theorem wd_18 {a0 : Array Value} {Z : State} (hw : ∀ d ∈ tables_1, d.before a0 Z = true) : (Jvm.Cond.fieldLink "java/lang/String" (38 : Nat) "java/lang/String" "COMPACT_STRINGS" "Z").before a0 Z = true := hw _ (List.mem_of_getElem? (i := 18) rfl)
theorem wd_19 {a0 : Array Value} {Z : State} (hw : ∀ d ∈ tables_1, d.before a0 Z = true) : (Jvm.Cond.methodLink "java/lang/String" (177 : Nat) ({ cls := "java/lang/StringUTF16", name := "compress", desc := "([CII)[B" } : Jvm.MethodName)).before a0 Z = true := hw _ (List.mem_of_getElem? (i := 19) rfl)
theorem wd_20 {a0 : Array Value} {Z : State} (hw : ∀ d ∈ tables_1, d.before a0 Z = true) : (Jvm.Cond.static ({ cls := "java/lang/StringUTF16", name := "compress", desc := "([CII)[B" } : Jvm.MethodName)).before a0 Z = true := hw _ (List.mem_of_getElem? (i := 20) rfl)
theorem wd_21 {a0 : Array Value} {Z : State} (hw : ∀ d ∈ tables_1, d.before a0 Z = true) : (Jvm.Cond.initialized "java/lang/StringUTF16").before a0 Z = true := hw _ (List.mem_of_getElem? (i := 21) rfl)
theorem wd_22 {a0 : Array Value} {Z : State} (hw : ∀ d ∈ tables_1, d.before a0 Z = true) : (Jvm.Cond.code ({ cls := "java/lang/StringUTF16", name := "compress", desc := "([CII)[B" } : Jvm.MethodName) jdk_52_method_16_code (6 : Nat) (Option.some (Jvm.ClassFile.FieldType.array Jvm.ClassFile.FieldType.byte))).before a0 Z = true := hw _ (List.mem_of_getElem? (i := 22) rfl)
theorem wd_23 {a0 : Array Value} {Z : State} (hw : ∀ d ∈ tables_1, d.before a0 Z = true) : (Jvm.Cond.arrayClass Jvm.ClassFile.FieldType.byte).before a0 Z = true := hw _ (List.mem_of_getElem? (i := 23) rfl)
theorem wd_24 {a0 : Array Value} {Z : State} (hw : ∀ d ∈ tables_1, d.before a0 Z = true) : (Jvm.Cond.methodLink "java/lang/StringUTF16" (115 : Nat) ({ cls := "java/lang/StringUTF16", name := "compress", desc := "([CI[BII)I" } : Jvm.MethodName)).before a0 Z = true := hw _ (List.mem_of_getElem? (i := 24) rfl)
theorem wd_25 {a0 : Array Value} {Z : State} (hw : ∀ d ∈ tables_1, d.before a0 Z = true) : (Jvm.Cond.static ({ cls := "java/lang/StringUTF16", name := "compress", desc := "([CI[BII)I" } : Jvm.MethodName)).before a0 Z = true := hw _ (List.mem_of_getElem? (i := 25) rfl)
theorem wd_26 {a0 : Array Value} {Z : State} (hw : ∀ d ∈ tables_1, d.before a0 Z = true) : (Jvm.Cond.code ({ cls := "java/lang/StringUTF16", name := "compress", desc := "([CI[BII)I" } : Jvm.MethodName) jdk_52_method_21_code (7 : Nat) (Option.some Jvm.ClassFile.FieldType.int)).before a0 Z = true := hw _ (List.mem_of_getElem? (i := 26) rfl)
theorem wd_27 {a0 : Array Value} {Z : State} (hw : ∀ d ∈ tables_1, d.before a0 Z = true) : (Jvm.Cond.methodLink "java/lang/String" (47 : Nat) ({ cls := "java/lang/StringUTF16", name := "coderFromArrayLen", desc := "([BI)B" } : Jvm.MethodName)).before a0 Z = true := hw _ (List.mem_of_getElem? (i := 27) rfl)
theorem wd_28 {a0 : Array Value} {Z : State} (hw : ∀ d ∈ tables_1, d.before a0 Z = true) : (Jvm.Cond.static ({ cls := "java/lang/StringUTF16", name := "coderFromArrayLen", desc := "([BI)B" } : Jvm.MethodName)).before a0 Z = true := hw _ (List.mem_of_getElem? (i := 28) rfl)
theorem wd_29 {a0 : Array Value} {Z : State} (hw : ∀ d ∈ tables_1, d.before a0 Z = true) : (Jvm.Cond.code ({ cls := "java/lang/StringUTF16", name := "coderFromArrayLen", desc := "([BI)B" } : Jvm.MethodName) jdk_52_method_15_code (2 : Nat) (Option.some Jvm.ClassFile.FieldType.byte)).before a0 Z = true := hw _ (List.mem_of_getElem? (i := 29) rfl)
theorem wd_30 {a0 : Array Value} {Z : State} (hw : ∀ d ∈ tables_1, d.before a0 Z = true) : (Jvm.Cond.fieldLink "java/lang/String" (15 : Nat) "java/lang/String" "coder" "B").before a0 Z = true := hw _ (List.mem_of_getElem? (i := 30) rfl)
theorem wd_31 {a0 : Array Value} {Z : State} (hw : ∀ d ∈ tables_1, d.before a0 Z = true) : (Jvm.Cond.laysFinal "java/lang/String" "java/lang/String" "coder" "B").before a0 Z = true := hw _ (List.mem_of_getElem? (i := 31) rfl)
theorem wd_32 {a0 : Array Value} {Z : State} (hw : ∀ d ∈ tables_1, d.before a0 Z = true) : (Jvm.Cond.fieldLink "java/lang/String" (9 : Nat) "java/lang/String" "value" "[B").before a0 Z = true := hw _ (List.mem_of_getElem? (i := 32) rfl)
theorem wd_33 {a0 : Array Value} {Z : State} (hw : ∀ d ∈ tables_1, d.before a0 Z = true) : (Jvm.Cond.laysFinal "java/lang/String" "java/lang/String" "value" "[B").before a0 Z = true := hw _ (List.mem_of_getElem? (i := 33) rfl)
theorem wd_34 {a0 : Array Value} {Z : State} (hw : ∀ d ∈ tables_1, d.before a0 Z = true) : (Jvm.Cond.classLink "com/example/meterwright/meterwright/snapshot/HoldingOfPinLaw" (18 : Nat) "com/example/meterwright/meterwright/usage/UsageRecord").before a0 Z = true := hw _ (List.mem_of_getElem? (i := 34) rfl)
theorem wd_35 {a0 : Array Value} {Z : State} (hw : ∀ d ∈ tables_1, d.before a0 Z = true) : (Jvm.Cond.instantiable "com/example/meterwright/meterwright/usage/UsageRecord" (11 : Nat)).before a0 Z = true := hw _ (List.mem_of_getElem? (i := 35) rfl)
theorem wd_36 {a0 : Array Value} {Z : State} (hw : ∀ d ∈ tables_1, d.before a0 Z = true) : (Jvm.Cond.initialized "com/example/meterwright/meterwright/usage/UsageRecord").before a0 Z = true := hw _ (List.mem_of_getElem? (i := 36) rfl)
theorem wd_37 {a0 : Array Value} {Z : State} (hw : ∀ d ∈ tables_1, d.before a0 Z = true) : (Jvm.Cond.fieldLink "com/example/meterwright/meterwright/snapshot/HoldingOfPinLaw" (20 : Nat) "java/time/Instant" "MIN" "Ljava/time/Instant;").before a0 Z = true := hw _ (List.mem_of_getElem? (i := 37) rfl)
theorem wd_38 {a0 : Array Value} {Z : State} (hw : ∀ d ∈ tables_1, d.before a0 Z = true) : (Jvm.Cond.initialized "java/time/Instant").before a0 Z = true := hw _ (List.mem_of_getElem? (i := 38) rfl)
theorem wd_39 {a0 : Array Value} {Z : State} (hw : ∀ d ∈ tables_1, d.before a0 Z = true) : (Jvm.Cond.fieldLink "com/example/meterwright/meterwright/snapshot/HoldingOfPinLaw" (26 : Nat) "java/time/Instant" "EPOCH" "Ljava/time/Instant;").before a0 Z = true := hw _ (List.mem_of_getElem? (i := 39) rfl)
theorem wd_40 {a0 : Array Value} {Z : State} (hw : ∀ d ∈ tables_1, d.before a0 Z = true) : (Jvm.Cond.fieldLink "com/example/meterwright/meterwright/snapshot/HoldingOfPinLaw" (29 : Nat) "java/math/BigDecimal" "ZERO" "Ljava/math/BigDecimal;").before a0 Z = true := hw _ (List.mem_of_getElem? (i := 40) rfl)
theorem wd_42 {a0 : Array Value} {Z : State} (hw : ∀ d ∈ tables_1, d.before a0 Z = true) : (Jvm.Cond.methodLink "com/example/meterwright/meterwright/snapshot/HoldingOfPinLaw" (35 : Nat) ({ cls := "com/example/meterwright/meterwright/usage/UsageRecord", name := "<init>", desc := "(Ljava/time/Instant;Ljava/time/Instant;Ljava/lang/String;Ljava/lang/String;Ljava/lang/String;Ljava/lang/String;Ljava/math/BigDecimal;Lcom/example/meterwright/meterwright/pricing/MeterKind;Z)V" } : Jvm.MethodName)).before a0 Z = true := hw _ (List.mem_of_getElem? (i := 42) rfl)
theorem wd_43 {a0 : Array Value} {Z : State} (hw : ∀ d ∈ tables_1, d.before a0 Z = true) : (Jvm.Cond.instanceMethod ({ cls := "com/example/meterwright/meterwright/usage/UsageRecord", name := "<init>", desc := "(Ljava/time/Instant;Ljava/time/Instant;Ljava/lang/String;Ljava/lang/String;Ljava/lang/String;Ljava/lang/String;Ljava/math/BigDecimal;Lcom/example/meterwright/meterwright/pricing/MeterKind;Z)V" } : Jvm.MethodName)).before a0 Z = true := hw _ (List.mem_of_getElem? (i := 43) rfl)
theorem wd_44 {a0 : Array Value} {Z : State} (hw : ∀ d ∈ tables_1, d.before a0 Z = true) : (Jvm.Cond.code ({ cls := "com/example/meterwright/meterwright/usage/UsageRecord", name := "<init>", desc := "(Ljava/time/Instant;Ljava/time/Instant;Ljava/lang/String;Ljava/lang/String;Ljava/lang/String;Ljava/lang/String;Ljava/math/BigDecimal;Lcom/example/meterwright/meterwright/pricing/MeterKind;Z)V" } : Jvm.MethodName) prog_68_method_1_code (10 : Nat) (Option.none : Option Jvm.ClassFile.FieldType)).before a0 Z = true := hw _ (List.mem_of_getElem? (i := 44) rfl)
theorem wd_45 {a0 : Array Value} {Z : State} (hw : ∀ d ∈ tables_1, d.before a0 Z = true) : (Jvm.Cond.fieldLink "com/example/meterwright/meterwright/usage/UsageRecord" (1 : Nat) "com/example/meterwright/meterwright/usage/Attributes" "NONE" "Lcom/example/meterwright/meterwright/usage/Attributes;").before a0 Z = true := hw _ (List.mem_of_getElem? (i := 45) rfl)
theorem wd_46 {a0 : Array Value} {Z : State} (hw : ∀ d ∈ tables_1, d.before a0 Z = true) : (Jvm.Cond.initialized "com/example/meterwright/meterwright/usage/Attributes").before a0 Z = true := hw _ (List.mem_of_getElem? (i := 46) rfl)
theorem wd_47 {a0 : Array Value} {Z : State} (hw : ∀ d ∈ tables_1, d.before a0 Z = true) : (Jvm.Cond.laysStatic "com/example/meterwright/meterwright/usage/Attributes" "NONE" "Lcom/example/meterwright/meterwright/usage/Attributes;").before a0 Z = true := hw _ (List.mem_of_getElem? (i := 47) rfl)
theorem wd_48 {a0 : Array Value} {Z : State} (hw : ∀ d ∈ tables_1, d.before a0 Z = true) : (Jvm.Cond.methodLink "com/example/meterwright/meterwright/usage/UsageRecord" (7 : Nat) ({ cls := "com/example/meterwright/meterwright/usage/UsageRecord", name := "<init>", desc := "(Ljava/time/Instant;Ljava/time/Instant;Ljava/lang/String;Ljava/lang/String;Ljava/lang/String;Ljava/lang/String;Ljava/math/BigDecimal;Lcom/example/meterwright/meterwright/pricing/MeterKind;ZLcom/example/meterwright/meterwright/usage/Attributes;Ljava/lang/String;)V" } : Jvm.MethodName)).before a0 Z = true := hw _ (List.mem_of_getElem? (i := 48) rfl)
theorem wd_49 {a0 : Array Value} {Z : State} (hw : ∀ d ∈ tables_1, d.before a0 Z = true) : (Jvm.Cond.instanceMethod ({ cls := "com/example/meterwright/meterwright/usage/UsageRecord", name := "<init>", desc := "(Ljava/time/Instant;Ljava/time/Instant;Ljava/lang/String;Ljava/lang/String;Ljava/lang/String;Ljava/lang/String;Ljava/math/BigDecimal;Lcom/example/meterwright/meterwright/pricing/MeterKind;ZLcom/example/meterwright/meterwright/usage/Attributes;Ljava/lang/String;)V" } : Jvm.MethodName)).before a0 Z = true := hw _ (List.mem_of_getElem? (i := 49) rfl)
theorem wd_50 {a0 : Array Value} {Z : State} (hw : ∀ d ∈ tables_1, d.before a0 Z = true) : (Jvm.Cond.code ({ cls := "com/example/meterwright/meterwright/usage/UsageRecord", name := "<init>", desc := "(Ljava/time/Instant;Ljava/time/Instant;Ljava/lang/String;Ljava/lang/String;Ljava/lang/String;Ljava/lang/String;Ljava/math/BigDecimal;Lcom/example/meterwright/meterwright/pricing/MeterKind;ZLcom/example/meterwright/meterwright/usage/Attributes;Ljava/lang/String;)V" } : Jvm.MethodName) prog_68_method_2_code (12 : Nat) (Option.none : Option Jvm.ClassFile.FieldType)).before a0 Z = true := hw _ (List.mem_of_getElem? (i := 50) rfl)
theorem wd_51 {a0 : Array Value} {Z : State} (hw : ∀ d ∈ tables_1, d.before a0 Z = true) : (Jvm.Cond.methodLink "com/example/meterwright/meterwright/usage/UsageRecord" (13 : Nat) ({ cls := "java/lang/Object", name := "<init>", desc := "()V" } : Jvm.MethodName)).before a0 Z = true := hw _ (List.mem_of_getElem? (i := 51) rfl)
theorem wd_52 {a0 : Array Value} {Z : State} (hw : ∀ d ∈ tables_1, d.before a0 Z = true) : (Jvm.Cond.methodLink "com/example/meterwright/meterwright/usage/UsageRecord" (18 : Nat) ({ cls := "com/example/meterwright/meterwright/usage/UsageRecord", name := "set", desc := "(Ljava/time/Instant;Ljava/time/Instant;Ljava/lang/String;Ljava/lang/String;Ljava/lang/String;Ljava/lang/String;Ljava/math/BigDecimal;Lcom/example/meterwright/meterwright/pricing/MeterKind;ZLcom/example/meterwright/meterwright/usage/Attributes;Ljava/lang/String;)Lcom/example/meterwright/meterwright/usage/UsageRecord;" } : Jvm.MethodName)).before a0 Z = true := hw _ (List.mem_of_getElem? (i := 52) rfl)
theorem wd_53 {a0 : Array Value} {Z : State} (hw : ∀ d ∈ tables_1, d.before a0 Z = true) : (Jvm.Cond.declares ({ cls := "com/example/meterwright/meterwright/usage/UsageRecord", name := "set", desc := "(Ljava/time/Instant;Ljava/time/Instant;Ljava/lang/String;Ljava/lang/String;Ljava/lang/String;Ljava/lang/String;Ljava/math/BigDecimal;Lcom/example/meterwright/meterwright/pricing/MeterKind;ZLcom/example/meterwright/meterwright/usage/Attributes;Ljava/lang/String;)Lcom/example/meterwright/meterwright/usage/UsageRecord;" } : Jvm.MethodName)).before a0 Z = true := hw _ (List.mem_of_getElem? (i := 53) rfl)
theorem wd_54 {a0 : Array Value} {Z : State} (hw : ∀ d ∈ tables_1, d.before a0 Z = true) : (Jvm.Cond.instanceMethod ({ cls := "com/example/meterwright/meterwright/usage/UsageRecord", name := "set", desc := "(Ljava/time/Instant;Ljava/time/Instant;Ljava/lang/String;Ljava/lang/String;Ljava/lang/String;Ljava/lang/String;Ljava/math/BigDecimal;Lcom/example/meterwright/meterwright/pricing/MeterKind;ZLcom/example/meterwright/meterwright/usage/Attributes;Ljava/lang/String;)Lcom/example/meterwright/meterwright/usage/UsageRecord;" } : Jvm.MethodName)).before a0 Z = true := hw _ (List.mem_of_getElem? (i := 54) rfl)
theorem wd_55 {a0 : Array Value} {Z : State} (hw : ∀ d ∈ tables_1, d.before a0 Z = true) : (Jvm.Cond.selects "com/example/meterwright/meterwright/usage/UsageRecord" ({ cls := "com/example/meterwright/meterwright/usage/UsageRecord", name := "set", desc := "(Ljava/time/Instant;Ljava/time/Instant;Ljava/lang/String;Ljava/lang/String;Ljava/lang/String;Ljava/lang/String;Ljava/math/BigDecimal;Lcom/example/meterwright/meterwright/pricing/MeterKind;ZLcom/example/meterwright/meterwright/usage/Attributes;Ljava/lang/String;)Lcom/example/meterwright/meterwright/usage/UsageRecord;" } : Jvm.MethodName) ({ cls := "com/example/meterwright/meterwright/usage/UsageRecord", name := "set", desc := "(Ljava/time/Instant;Ljava/time/Instant;Ljava/lang/String;Ljava/lang/String;Ljava/lang/String;Ljava/lang/String;Ljava/math/BigDecimal;Lcom/example/meterwright/meterwright/pricing/MeterKind;ZLcom/example/meterwright/meterwright/usage/Attributes;Ljava/lang/String;)Lcom/example/meterwright/meterwright/usage/UsageRecord;" } : Jvm.MethodName)).before a0 Z = true := hw _ (List.mem_of_getElem? (i := 55) rfl)
theorem wd_56 {a0 : Array Value} {Z : State} (hw : ∀ d ∈ tables_1, d.before a0 Z = true) : (Jvm.Cond.code ({ cls := "com/example/meterwright/meterwright/usage/UsageRecord", name := "set", desc := "(Ljava/time/Instant;Ljava/time/Instant;Ljava/lang/String;Ljava/lang/String;Ljava/lang/String;Ljava/lang/String;Ljava/math/BigDecimal;Lcom/example/meterwright/meterwright/pricing/MeterKind;ZLcom/example/meterwright/meterwright/usage/Attributes;Ljava/lang/String;)Lcom/example/meterwright/meterwright/usage/UsageRecord;" } : Jvm.MethodName) prog_68_method_4_code (12 : Nat) (Option.some (Jvm.ClassFile.FieldType.object "com/example/meterwright/meterwright/usage/UsageRecord"))).before a0 Z = true := hw _ (List.mem_of_getElem? (i := 56) rfl)
theorem wd_57 {a0 : Array Value} {Z : State} (hw : ∀ d ∈ tables_1, d.before a0 Z = true) : (Jvm.Cond.methodLink "com/example/meterwright/meterwright/usage/UsageRecord" (22 : Nat) ({ cls := "java/time/Instant", name := "isAfter", desc := "(Ljava/time/Instant;)Z" } : Jvm.MethodName)).before a0 Z = true := hw _ (List.mem_of_getElem? (i := 57) rfl)
theorem wd_58 {a0 : Array Value} {Z : State} (hw : ∀ d ∈ tables_1, d.before a0 Z = true) : (Jvm.Cond.declares ({ cls := "java/time/Instant", name := "isAfter", desc := "(Ljava/time/Instant;)Z" } : Jvm.MethodName)).before a0 Z = true := hw _ (List.mem_of_getElem? (i := 58) rfl)
theorem wd_59 {a0 : Array Value} {Z : State} (hw : ∀ d ∈ tables_1, d.before a0 Z = true) : (Jvm.Cond.instanceMethod ({ cls := "java/time/Instant", name := "isAfter", desc := "(Ljava/time/Instant;)Z" } : Jvm.MethodName)).before a0 Z = true := hw _ (List.mem_of_getElem? (i := 59) rfl)
theorem wd_60 {a0 : Array Value} {Z : State} (hw : ∀ d ∈ tables_1, d.before a0 Z = true) : (Jvm.Cond.selects "java/time/Instant" ({ cls := "java/time/Instant", name := "isAfter", desc := "(Ljava/time/Instant;)Z" } : Jvm.MethodName) ({ cls := "java/time/Instant", name := "isAfter", desc := "(Ljava/time/Instant;)Z" } : Jvm.MethodName)).before a0 Z = true := hw _ (List.mem_of_getElem? (i := 60) rfl)
theorem wd_61 {a0 : Array Value} {Z : State} (hw : ∀ d ∈ tables_1, d.before a0 Z = true) : (Jvm.Cond.code ({ cls := "java/time/Instant", name := "isAfter", desc := "(Ljava/time/Instant;)Z" } : Jvm.MethodName) jdk_2320_method_42_code (2 : Nat) (Option.some Jvm.ClassFile.FieldType.boolean)).before a0 Z = true := hw _ (List.mem_of_getElem? (i := 61) rfl)
theorem wd_62 {a0 : Array Value} {Z : State} (hw : ∀ d ∈ tables_1, d.before a0 Z = true) : (Jvm.Cond.methodLink "java/time/Instant" (371 : Nat) ({ cls := "java/time/Instant", name := "compareTo", desc := "(Ljava/time/Instant;)I" } : Jvm.MethodName)).before a0 Z = true := hw _ (List.mem_of_getElem? (i := 62) rfl)
theorem wd_63 {a0 : Array Value} {Z : State} (hw : ∀ d ∈ tables_1, d.before a0 Z = true) : (Jvm.Cond.declares ({ cls := "java/time/Instant", name := "compareTo", desc := "(Ljava/time/Instant;)I" } : Jvm.MethodName)).before a0 Z = true := hw _ (List.mem_of_getElem? (i := 63) rfl)
theorem wd_64 {a0 : Array Value} {Z : State} (hw : ∀ d ∈ tables_1, d.before a0 Z = true) : (Jvm.Cond.instanceMethod ({ cls := "java/time/Instant", name := "compareTo", desc := "(Ljava/time/Instant;)I" } : Jvm.MethodName)).before a0 Z = true := hw _ (List.mem_of_getElem? (i := 64) rfl)
theorem wd_65 {a0 : Array Value} {Z : State} (hw : ∀ d ∈ tables_1, d.before a0 Z = true) : (Jvm.Cond.selects "java/time/Instant" ({ cls := "java/time/Instant", name := "compareTo", desc := "(Ljava/time/Instant;)I" } : Jvm.MethodName) ({ cls := "java/time/Instant", name := "compareTo", desc := "(Ljava/time/Instant;)I" } : Jvm.MethodName)).before a0 Z = true := hw _ (List.mem_of_getElem? (i := 65) rfl)
theorem wd_66 {a0 : Array Value} {Z : State} (hw : ∀ d ∈ tables_1, d.before a0 Z = true) : (Jvm.Cond.code ({ cls := "java/time/Instant", name := "compareTo", desc := "(Ljava/time/Instant;)I" } : Jvm.MethodName) jdk_2320_method_41_code (3 : Nat) (Option.some Jvm.ClassFile.FieldType.int)).before a0 Z = true := hw _ (List.mem_of_getElem? (i := 66) rfl)
theorem wd_67 {a0 : Array Value} {Z : State} (hw : ∀ d ∈ tables_1, d.before a0 Z = true) : (Jvm.Cond.fieldLink "java/time/Instant" (140 : Nat) "java/time/Instant" "seconds" "J").before a0 Z = true := hw _ (List.mem_of_getElem? (i := 67) rfl)
theorem wd_69 {a0 : Array Value} {Z : State} (hw : ∀ d ∈ tables_1, d.before a0 Z = true) : (Jvm.Cond.methodLink "java/time/Instant" (367 : Nat) ({ cls := "java/lang/Long", name := "compare", desc := "(JJ)I" } : Jvm.MethodName)).before a0 Z = true := hw _ (List.mem_of_getElem? (i := 69) rfl)
theorem wd_70 {a0 : Array Value} {Z : State} (hw : ∀ d ∈ tables_1, d.before a0 Z = true) : (Jvm.Cond.static ({ cls := "java/lang/Long", name := "compare", desc := "(JJ)I" } : Jvm.MethodName)).before a0 Z = true := hw _ (List.mem_of_getElem? (i := 70) rfl)
theorem wd_71 {a0 : Array Value} {Z : State} (hw : ∀ d ∈ tables_1, d.before a0 Z = true) : (Jvm.Cond.initialized "java/lang/Long").before a0 Z = true := hw _ (List.mem_of_getElem? (i := 71) rfl)
theorem wd_72 {a0 : Array Value} {Z : State} (hw : ∀ d ∈ tables_1, d.before a0 Z = true) : (Jvm.Cond.code ({ cls := "java/lang/Long", name := "compare", desc := "(JJ)I" } : Jvm.MethodName) jdk_35_method_42_code (4 : Nat) (Option.some Jvm.ClassFile.FieldType.int)).before a0 Z = true := hw _ (List.mem_of_getElem? (i := 72) rfl)
theorem wd_73 {a0 : Array Value} {Z : State} (hw : ∀ d ∈ tables_1, d.before a0 Z = true) : (Jvm.Cond.stringLink "com/example/meterwright/meterwright/usage/UsageRecord" (43 : Nat) "tenant").before a0 Z = true := hw _ (List.mem_of_getElem? (i := 73) rfl)
theorem wd_74 {a0 : Array Value} {Z : State} (hw : ∀ d ∈ tables_1, d.before a0 Z = true) : (Jvm.Cond.soleField "java/lang/String" "value").before a0 Z = true := hw _ (List.mem_of_getElem? (i := 74) rfl)
theorem wd_75 {a0 : Array Value} {Z : State} (hw : ∀ d ∈ tables_1, d.before a0 Z = true) : (Jvm.Cond.soleField "java/lang/String" "coder").before a0 Z = true := hw _ (List.mem_of_getElem? (i := 75) rfl)
theorem wd_76 {a0 : Array Value} {Z : State} (hw : ∀ d ∈ tables_1, d.before a0 Z = true) : (Jvm.Cond.methodLink "com/example/meterwright/meterwright/usage/UsageRecord" (45 : Nat) ({ cls := "com/example/meterwright/meterwright/usage/UsageRecord", name := "checkNotEmpty", desc := "(Ljava/lang/String;Ljava/lang/String;)V" } : Jvm.MethodName)).before a0 Z = true := hw _ (List.mem_of_getElem? (i := 76) rfl)
theorem wd_77 {a0 : Array Value} {Z : State} (hw : ∀ d ∈ tables_1, d.before a0 Z = true) : (Jvm.Cond.static ({ cls := "com/example/meterwright/meterwright/usage/UsageRecord", name := "checkNotEmpty", desc := "(Ljava/lang/String;Ljava/lang/String;)V" } : Jvm.MethodName)).before a0 Z = true := hw _ (List.mem_of_getElem? (i := 77) rfl)
theorem wd_78 {a0 : Array Value} {Z : State} (hw : ∀ d ∈ tables_1, d.before a0 Z = true) : (Jvm.Cond.code ({ cls := "com/example/meterwright/meterwright/usage/UsageRecord", name := "checkNotEmpty", desc := "(Ljava/lang/String;Ljava/lang/String;)V" } : Jvm.MethodName) prog_68_method_6_code (2 : Nat) (Option.none : Option Jvm.ClassFile.FieldType)).before a0 Z = true := hw _ (List.mem_of_getElem? (i := 78) rfl)
theorem wd_79 {a0 : Array Value} {Z : State} (hw : ∀ d ∈ tables_1, d.before a0 Z = true) : (Jvm.Cond.methodLink "com/example/meterwright/meterwright/usage/UsageRecord" (100 : Nat) ({ cls := "java/lang/String", name := "isEmpty", desc := "()Z" } : Jvm.MethodName)).before a0 Z = true := hw _ (List.mem_of_getElem? (i := 79) rfl)
theorem wd_80 {a0 : Array Value} {Z : State} (hw : ∀ d ∈ tables_1, d.before a0 Z = true) : (Jvm.Cond.declares ({ cls := "java/lang/String", name := "isEmpty", desc := "()Z" } : Jvm.MethodName)).before a0 Z = true := hw _ (List.mem_of_getElem? (i := 80) rfl)
theorem wd_81 {a0 : Array Value} {Z : State} (hw : ∀ d ∈ tables_1, d.before a0 Z = true) : (Jvm.Cond.instanceMethod ({ cls := "java/lang/String", name := "isEmpty", desc := "()Z" } : Jvm.MethodName)).before a0 Z = true := hw _ (List.mem_of_getElem? (i := 81) rfl)
theorem wd_82 {a0 : Array Value} {Z : State} (hw : ∀ d ∈ tables_1, d.before a0 Z = true) : (Jvm.Cond.selects "java/lang/String" ({ cls := "java/lang/String", name := "isEmpty", desc := "()Z" } : Jvm.MethodName) ({ cls := "java/lang/String", name := "isEmpty", desc := "()Z" } : Jvm.MethodName)).before a0 Z = true := hw _ (List.mem_of_getElem? (i := 82) rfl)
theorem wd_83 {a0 : Array Value} {Z : State} (hw : ∀ d ∈ tables_1, d.before a0 Z = true) : (Jvm.Cond.code ({ cls := "java/lang/String", name := "isEmpty", desc := "()Z" } : Jvm.MethodName) jdk_42_method_55_code (1 : Nat) (Option.some Jvm.ClassFile.FieldType.boolean)).before a0 Z = true := hw _ (List.mem_of_getElem? (i := 83) rfl)
theorem wd_84 {a0 : Array Value} {Z : State} (hw : ∀ d ∈ tables_1, d.before a0 Z = true) : (Jvm.Cond.stringLink "com/example/meterwright/meterwright/usage/UsageRecord" (49 : Nat) "project").before a0 Z = true := hw _ (List.mem_of_getElem? (i := 84) rfl)
theorem wd_85 {a0 : Array Value} {Z : State} (hw : ∀ d ∈ tables_1, d.before a0 Z = true) : (Jvm.Cond.stringLink "com/example/meterwright/meterwright/usage/UsageRecord" (51 : Nat) "resource").before a0 Z = true := hw _ (List.mem_of_getElem? (i := 85) rfl)
theorem wd_86 {a0 : Array Value} {Z : State} (hw : ∀ d ∈ tables_1, d.before a0 Z = true) : (Jvm.Cond.stringLink "com/example/meterwright/meterwright/usage/UsageRecord" (53 : Nat) "meter").before a0 Z = true := hw _ (List.mem_of_getElem? (i := 86) rfl)
theorem wd_87 {a0 : Array Value} {Z : State} (hw : ∀ d ∈ tables_1, d.before a0 Z = true) : (Jvm.Cond.fieldLink "com/example/meterwright/meterwright/usage/UsageRecord" (57 : Nat) "com/example/meterwright/meterwright/usage/UsageRecord" "start" "Ljava/time/Instant;").before a0 Z = true := hw _ (List.mem_of_getElem? (i := 87) rfl)
theorem wd_88 {a0 : Array Value} {Z : State} (hw : ∀ d ∈ tables_1, d.before a0 Z = true) : (Jvm.Cond.lays "com/example/meterwright/meterwright/usage/UsageRecord" "com/example/meterwright/meterwright/usage/UsageRecord" "start" "Ljava/time/Instant;").before a0 Z = true := hw _ (List.mem_of_getElem? (i := 88) rfl)
theorem wd_89 {a0 : Array Value} {Z : State} (hw : ∀ d ∈ tables_1, d.before a0 Z = true) : (Jvm.Cond.fieldLink "com/example/meterwright/meterwright/usage/UsageRecord" (61 : Nat) "com/example/meterwright/meterwright/usage/UsageRecord" "end" "Ljava/time/Instant;").before a0 Z = true := hw _ (List.mem_of_getElem? (i := 89) rfl)
theorem wd_90 {a0 : Array Value} {Z : State} (hw : ∀ d ∈ tables_1, d.before a0 Z = true) : (Jvm.Cond.lays "com/example/meterwright/meterwright/usage/UsageRecord" "com/example/meterwright/meterwright/usage/UsageRecord" "end" "Ljava/time/Instant;").before a0 Z = true := hw _ (List.mem_of_getElem? (i := 90) rfl)
theorem wd_91 {a0 : Array Value} {Z : State} (hw : ∀ d ∈ tables_1, d.before a0 Z = true) : (Jvm.Cond.fieldLink "com/example/meterwright/meterwright/usage/UsageRecord" (64 : Nat) "com/example/meterwright/meterwright/usage/UsageRecord" "tenant" "Ljava/lang/String;").before a0 Z = true := hw _ (List.mem_of_getElem? (i := 91) rfl)
theorem wd_92 {a0 : Array Value} {Z : State} (hw : ∀ d ∈ tables_1, d.before a0 Z = true) : (Jvm.Cond.lays "com/example/meterwright/meterwright/usage/UsageRecord" "com/example/meterwright/meterwright/usage/UsageRecord" "tenant" "Ljava/lang/String;").before a0 Z = true := hw _ (List.mem_of_getElem? (i := 92) rfl)
theorem wd_93 {a0 : Array Value} {Z : State} (hw : ∀ d ∈ tables_1, d.before a0 Z = true) : (Jvm.Cond.fieldLink "com/example/meterwright/meterwright/usage/UsageRecord" (67 : Nat) "com/example/meterwright/meterwright/usage/UsageRecord" "project" "Ljava/lang/String;").before a0 Z = true := hw _ (List.mem_of_getElem? (i := 93) rfl)
theorem wd_94 {a0 : Array Value} {Z : State} (hw : ∀ d ∈ tables_1, d.before a0 Z = true) : (Jvm.Cond.lays "com/example/meterwright/meterwright/usage/UsageRecord" "com/example/meterwright/meterwright/usage/UsageRecord" "project" "Ljava/lang/String;").before a0 Z = true := hw _ (List.mem_of_getElem? (i := 94) rfl)
theorem wd_95 {a0 : Array Value} {Z : State} (hw : ∀ d ∈ tables_1, d.before a0 Z = true) : (Jvm.Cond.fieldLink "com/example/meterwright/meterwright/usage/UsageRecord" (69 : Nat) "com/example/meterwright/meterwright/usage/UsageRecord" "resource" "Ljava/lang/String;").before a0 Z = true := hw _ (List.mem_of_getElem? (i := 95) rfl)
theorem wd_96 {a0 : Array Value} {Z : State} (hw : ∀ d ∈ tables_1, d.before a0 Z = true) : (Jvm.Cond.lays "com/example/meterwright/meterwright/usage/UsageRecord" "com/example/meterwright/meterwright/usage/UsageRecord" "resource" "Ljava/lang/String;").before a0 Z = true := hw _ (List.mem_of_getElem? (i := 96) rfl)
theorem wd_97 {a0 : Array Value} {Z : State} (hw : ∀ d ∈ tables_1, d.before a0 Z = true) : (Jvm.Cond.fieldLink "com/example/meterwright/meterwright/usage/UsageRecord" (71 : Nat) "com/example/meterwright/meterwright/usage/UsageRecord" "meter" "Ljava/lang/String;").before a0 Z = true := hw _ (List.mem_of_getElem? (i := 97) rfl)
theorem wd_98 {a0 : Array Value} {Z : State} (hw : ∀ d ∈ tables_1, d.before a0 Z = true) : (Jvm.Cond.lays "com/example/meterwright/meterwright/usage/UsageRecord" "com/example/meterwright/meterwright/usage/UsageRecord" "meter" "Ljava/lang/String;").before a0 Z = true := hw _ (List.mem_of_getElem? (i := 98) rfl)
theorem wd_99 {a0 : Array Value} {Z : State} (hw : ∀ d ∈ tables_1, d.before a0 Z = true) : (Jvm.Cond.stringLink "com/example/meterwright/meterwright/usage/UsageRecord" (73 : Nat) "quantity").before a0 Z = true := hw _ (List.mem_of_getElem? (i := 99) rfl)
theorem wd_100 {a0 : Array Value} {Z : State} (hw : ∀ d ∈ tables_1, d.before a0 Z = true) : (Jvm.Cond.methodLink "com/example/meterwright/meterwright/usage/UsageRecord" (75 : Nat) ({ cls := "java/util/Objects", name := "requireNonNull", desc := "(Ljava/lang/Object;Ljava/lang/String;)Ljava/lang/Object;" } : Jvm.MethodName)).before a0 Z = true := hw _ (List.mem_of_getElem? (i := 100) rfl)
theorem wd_101 {a0 : Array Value} {Z : State} (hw : ∀ d ∈ tables_1, d.before a0 Z = true) : (Jvm.Cond.static ({ cls := "java/util/Objects", name := "requireNonNull", desc := "(Ljava/lang/Object;Ljava/lang/String;)Ljava/lang/Object;" } : Jvm.MethodName)).before a0 Z = true := hw _ (List.mem_of_getElem? (i := 101) rfl)
theorem wd_102 {a0 : Array Value} {Z : State} (hw : ∀ d ∈ tables_1, d.before a0 Z = true) : (Jvm.Cond.initialized "java/util/Objects").before a0 Z = true := hw _ (List.mem_of_getElem? (i := 102) rfl)
theorem wd_103 {a0 : Array Value} {Z : State} (hw : ∀ d ∈ tables_1, d.before a0 Z = true) : (Jvm.Cond.code ({ cls := "java/util/Objects", name := "requireNonNull", desc := "(Ljava/lang/Object;Ljava/lang/String;)Ljava/lang/Object;" } : Jvm.MethodName) jdk_31_method_11_code (2 : Nat) (Option.some (Jvm.ClassFile.FieldType.object "java/lang/Object"))).before a0 Z = true := hw _ (List.mem_of_getElem? (i := 103) rfl)
theorem wd_104 {a0 : Array Value} {Z : State} (hw : ∀ d ∈ tables_1, d.before a0 Z = true) : (Jvm.Cond.classLink "com/example/meterwright/meterwright/usage/UsageRecord" (81 : Nat) "java/math/BigDecimal").before a0 Z = true := hw _ (List.mem_of_getElem? (i := 104) rfl)
theorem wd_106 {a0 : Array Value} {Z : State} (hw : ∀ d ∈ tables_1, d.before a0 Z = true) : (Jvm.Cond.fieldLink "com/example/meterwright/meterwright/usage/UsageRecord" (83 : Nat) "com/example/meterwright/meterwright/usage/UsageRecord" "quantity" "Ljava/math/BigDecimal;").before a0 Z = true := hw _ (List.mem_of_getElem? (i := 106) rfl)
theorem wd_107 {a0 : Array Value} {Z : State} (hw : ∀ d ∈ tables_1, d.before a0 Z = true) : (Jvm.Cond.lays "com/example/meterwright/meterwright/usage/UsageRecord" "com/example/meterwright/meterwright/usage/UsageRecord" "quantity" "Ljava/math/BigDecimal;").before a0 Z = true := hw _ (List.mem_of_getElem? (i := 107) rfl)
theorem wd_108 {a0 : Array Value} {Z : State} (hw : ∀ d ∈ tables_1, d.before a0 Z = true) : (Jvm.Cond.fieldLink "com/example/meterwright/meterwright/usage/UsageRecord" (86 : Nat) "com/example/meterwright/meterwright/usage/UsageRecord" "kind" "Lcom/example/meterwright/meterwright/pricing/MeterKind;").before a0 Z = true := hw _ (List.mem_of_getElem? (i := 108) rfl)
theorem wd_109 {a0 : Array Value} {Z : State} (hw : ∀ d ∈ tables_1, d.before a0 Z = true) : (Jvm.Cond.lays "com/example/meterwright/meterwright/usage/UsageRecord" "com/example/meterwright/meterwright/usage/UsageRecord" "kind" "Lcom/example/meterwright/meterwright/pricing/MeterKind;").before a0 Z = true := hw _ (List.mem_of_getElem? (i := 109) rfl)
theorem wd_110 {a0 : Array Value} {Z : State} (hw : ∀ d ∈ tables_1, d.before a0 Z = true) : (Jvm.Cond.fieldLink "com/example/meterwright/meterwright/usage/UsageRecord" (90 : Nat) "com/example/meterwright/meterwright/usage/UsageRecord" "valid" "Z").before a0 Z = true := hw _ (List.mem_of_getElem? (i := 110) rfl)
theorem wd_111 {a0 : Array Value} {Z : State} (hw : ∀ d ∈ tables_1, d.before a0 Z = true) : (Jvm.Cond.lays "com/example/meterwright/meterwright/usage/UsageRecord" "com/example/meterwright/meterwright/usage/UsageRecord" "valid" "Z").before a0 Z = true := hw _ (List.mem_of_getElem? (i := 111) rfl)
theorem wd_112 {a0 : Array Value} {Z : State} (hw : ∀ d ∈ tables_1, d.before a0 Z = true) : (Jvm.Cond.stringLink "com/example/meterwright/meterwright/usage/UsageRecord" (94 : Nat) "attributes").before a0 Z = true := hw _ (List.mem_of_getElem? (i := 112) rfl)
theorem wd_113 {a0 : Array Value} {Z : State} (hw : ∀ d ∈ tables_1, d.before a0 Z = true) : (Jvm.Cond.classLink "com/example/meterwright/meterwright/usage/UsageRecord" (2 : Nat) "com/example/meterwright/meterwright/usage/Attributes").before a0 Z = true := hw _ (List.mem_of_getElem? (i := 113) rfl)
theorem wd_115 {a0 : Array Value} {Z : State} (hw : ∀ d ∈ tables_1, d.before a0 Z = true) : (Jvm.Cond.fieldLink "com/example/meterwright/meterwright/usage/UsageRecord" (96 : Nat) "com/example/meterwright/meterwright/usage/UsageRecord" "attributes" "Lcom/example/meterwright/meterwright/usage/Attributes;").before a0 Z = true := hw _ (List.mem_of_getElem? (i := 115) rfl)
theorem wd_116 {a0 : Array Value} {Z : State} (hw : ∀ d ∈ tables_1, d.before a0 Z = true) : (Jvm.Cond.lays "com/example/meterwright/meterwright/usage/UsageRecord" "com/example/meterwright/meterwright/usage/UsageRecord" "attributes" "Lcom/example/meterwright/meterwright/usage/Attributes;").before a0 Z = true := hw _ (List.mem_of_getElem? (i := 116) rfl)
theorem wd_117 {a0 : Array Value} {Z : State} (hw : ∀ d ∈ tables_1, d.before a0 Z = true) : (Jvm.Cond.fieldLink "com/example/meterwright/meterwright/usage/UsageRecord" (98 : Nat) "com/example/meterwright/meterwright/usage/UsageRecord" "currency" "Ljava/lang/String;").before a0 Z = true := hw _ (List.mem_of_getElem? (i := 117) rfl)
theorem wd_118 {a0 : Array Value} {Z : State} (hw : ∀ d ∈ tables_1, d.before a0 Z = true) : (Jvm.Cond.lays "com/example/meterwright/meterwright/usage/UsageRecord" "com/example/meterwright/meterwright/usage/UsageRecord" "currency" "Ljava/lang/String;").before a0 Z = true := hw _ (List.mem_of_getElem? (i := 118) rfl)
theorem wd_119 {a0 : Array Value} {Z : State} (hw : ∀ d ∈ tables_1, d.before a0 Z = true) : (Jvm.Cond.methodLink "com/example/meterwright/meterwright/snapshot/HoldingOfPinLaw" (38 : Nat) ({ cls := "com/example/meterwright/meterwright/snapshot/Holding", name := "of", desc := "(Lcom/example/meterwright/meterwright/usage/UsageRecord;)Lcom/example/meterwright/meterwright/snapshot/Holding;" } : Jvm.MethodName)).before a0 Z = true := hw _ (List.mem_of_getElem? (i := 119) rfl)
theorem wd_120 {a0 : Array Value} {Z : State} (hw : ∀ d ∈ tables_1, d.before a0 Z = true) : (Jvm.Cond.static ({ cls := "com/example/meterwright/meterwright/snapshot/Holding", name := "of", desc := "(Lcom/example/meterwright/meterwright/usage/UsageRecord;)Lcom/example/meterwright/meterwright/snapshot/Holding;" } : Jvm.MethodName)).before a0 Z = true := hw _ (List.mem_of_getElem? (i := 120) rfl)
theorem wd_121 {a0 : Array Value} {Z : State} (hw : ∀ d ∈ tables_1, d.before a0 Z = true) : (Jvm.Cond.initialized "com/example/meterwright/meterwright/snapshot/Holding").before a0 Z = true := hw _ (List.mem_of_getElem? (i := 121) rfl)
theorem wd_122 {a0 : Array Value} {Z : State} (hw : ∀ d ∈ tables_1, d.before a0 Z = true) : (Jvm.Cond.code ({ cls := "com/example/meterwright/meterwright/snapshot/Holding", name := "of", desc := "(Lcom/example/meterwright/meterwright/usage/UsageRecord;)Lcom/example/meterwright/meterwright/snapshot/Holding;" } : Jvm.MethodName) prog_57_method_2_code (1 : Nat) (Option.some (Jvm.ClassFile.FieldType.object "com/example/meterwright/meterwright/snapshot/Holding"))).before a0 Z = true := hw _ (List.mem_of_getElem? (i := 122) rfl)
theorem wd_123 {a0 : Array Value} {Z : State} (hw : ∀ d ∈ tables_1, d.before a0 Z = true) : (Jvm.Cond.classLink "com/example/meterwright/meterwright/snapshot/Holding" (8 : Nat) "com/example/meterwright/meterwright/snapshot/Holding").before a0 Z = true := hw _ (List.mem_of_getElem? (i := 123) rfl)
theorem wd_124 {a0 : Array Value} {Z : State} (hw : ∀ d ∈ tables_1, d.before a0 Z = true) : (Jvm.Cond.instantiable "com/example/meterwright/meterwright/snapshot/Holding" (4 : Nat)).before a0 Z = true := hw _ (List.mem_of_getElem? (i := 124) rfl)
theorem wd_125 {a0 : Array Value} {Z : State} (hw : ∀ d ∈ tables_1, d.before a0 Z = true) : (Jvm.Cond.methodLink "com/example/meterwright/meterwright/snapshot/Holding" (22 : Nat) ({ cls := "com/example/meterwright/meterwright/usage/UsageRecord", name := "tenant", desc := "()Ljava/lang/String;" } : Jvm.MethodName)).before a0 Z = true := hw _ (List.mem_of_getElem? (i := 125) rfl)
theorem wd_126 {a0 : Array Value} {Z : State} (hw : ∀ d ∈ tables_1, d.before a0 Z = true) : (Jvm.Cond.declares ({ cls := "com/example/meterwright/meterwright/usage/UsageRecord", name := "tenant", desc := "()Ljava/lang/String;" } : Jvm.MethodName)).before a0 Z = true := hw _ (List.mem_of_getElem? (i := 126) rfl)
theorem wd_127 {a0 : Array Value} {Z : State} (hw : ∀ d ∈ tables_1, d.before a0 Z = true) : (Jvm.Cond.instanceMethod ({ cls := "com/example/meterwright/meterwright/usage/UsageRecord", name := "tenant", desc := "()Ljava/lang/String;" } : Jvm.MethodName)).before a0 Z = true := hw _ (List.mem_of_getElem? (i := 127) rfl)
theorem wd_128 {a0 : Array Value} {Z : State} (hw : ∀ d ∈ tables_1, d.before a0 Z = true) : (Jvm.Cond.selects "com/example/meterwright/meterwright/usage/UsageRecord" ({ cls := "com/example/meterwright/meterwright/usage/UsageRecord", name := "tenant", desc := "()Ljava/lang/String;" } : Jvm.MethodName) ({ cls := "com/example/meterwright/meterwright/usage/UsageRecord", name := "tenant", desc := "()Ljava/lang/String;" } : Jvm.MethodName)).before a0 Z = true := hw _ (List.mem_of_getElem? (i := 128) rfl)
theorem wd_129 {a0 : Array Value} {Z : State} (hw : ∀ d ∈ tables_1, d.before a0 Z = true) : (Jvm.Cond.code ({ cls := "com/example/meterwright/meterwright/usage/UsageRecord", name := "tenant", desc := "()Ljava/lang/String;" } : Jvm.MethodName) prog_68_method_9_code (1 : Nat) (Option.some (Jvm.ClassFile.FieldType.object "java/lang/String"))).before a0 Z = true := hw _ (List.mem_of_getElem? (i := 129) rfl)
theorem wd_130 {a0 : Array Value} {Z : State} (hw : ∀ d ∈ tables_1, d.before a0 Z = true) : (Jvm.Cond.methodLink "com/example/meterwright/meterwright/snapshot/Holding" (27 : Nat) ({ cls := "com/example/meterwright/meterwright/usage/UsageRecord", name := "project", desc := "()Ljava/lang/String;" } : Jvm.MethodName)).before a0 Z = true := hw _ (List.mem_of_getElem? (i := 130) rfl)
theorem wd_131 {a0 : Array Value} {Z : State} (hw : ∀ d ∈ tables_1, d.before a0 Z = true) : (Jvm.Cond.declares ({ cls := "com/example/meterwright/meterwright/usage/UsageRecord", name := "project", desc := "()Ljava/lang/String;" } : Jvm.MethodName)).before a0 Z = true := hw _ (List.mem_of_getElem? (i := 131) rfl)
theorem wd_132 {a0 : Array Value} {Z : State} (hw : ∀ d ∈ tables_1, d.before a0 Z = true) : (Jvm.Cond.instanceMethod ({ cls := "com/example/meterwright/meterwright/usage/UsageRecord", name := "project", desc := "()Ljava/lang/String;" } : Jvm.MethodName)).before a0 Z = true := hw _ (List.mem_of_getElem? (i := 132) rfl)
theorem wd_133 {a0 : Array Value} {Z : State} (hw : ∀ d ∈ tables_1, d.before a0 Z = true) : (Jvm.Cond.selects "com/example/meterwright/meterwright/usage/UsageRecord" ({ cls := "com/example/meterwright/meterwright/usage/UsageRecord", name := "project", desc := "()Ljava/lang/String;" } : Jvm.MethodName) ({ cls := "com/example/meterwright/meterwright/usage/UsageRecord", name := "project", desc := "()Ljava/lang/String;" } : Jvm.MethodName)).before a0 Z = true := hw _ (List.mem_of_getElem? (i := 133) rfl)
theorem wd_134 {a0 : Array Value} {Z : State} (hw : ∀ d ∈ tables_1, d.before a0 Z = true) : (Jvm.Cond.code ({ cls := "com/example/meterwright/meterwright/usage/UsageRecord", name := "project", desc := "()Ljava/lang/String;" } : Jvm.MethodName) prog_68_method_10_code (1 : Nat) (Option.some (Jvm.ClassFile.FieldType.object "java/lang/String"))).before a0 Z = true := hw _ (List.mem_of_getElem? (i := 134) rfl)
theorem wd_135 {a0 : Array Value} {Z : State} (hw : ∀ d ∈ tables_1, d.before a0 Z = true) : (Jvm.Cond.methodLink "com/example/meterwright/meterwright/snapshot/Holding" (29 : Nat) ({ cls := "com/example/meterwright/meterwright/usage/UsageRecord", name := "resource", desc := "()Ljava/lang/String;" } : Jvm.MethodName)).before a0 Z = true := hw _ (List.mem_of_getElem? (i := 135) rfl)
theorem wd_136 {a0 : Array Value} {Z : State} (hw : ∀ d ∈ tables_1, d.before a0 Z = true) : (Jvm.Cond.declares ({ cls := "com/example/meterwright/meterwright/usage/UsageRecord", name := "resource", desc := "()Ljava/lang/String;" } : Jvm.MethodName)).before a0 Z = true := hw _ (List.mem_of_getElem? (i := 136) rfl)
theorem wd_137 {a0 : Array Value} {Z : State} (hw : ∀ d ∈ tables_1, d.before a0 Z = true) : (Jvm.Cond.instanceMethod ({ cls := "com/example/meterwright/meterwright/usage/UsageRecord", name := "resource", desc := "()Ljava/lang/String;" } : Jvm.MethodName)).before a0 Z = true := hw _ (List.mem_of_getElem? (i := 137) rfl)
theorem wd_138 {a0 : Array Value} {Z : State} (hw : ∀ d ∈ tables_1, d.before a0 Z = true) : (Jvm.Cond.selects "com/example/meterwright/meterwright/usage/UsageRecord" ({ cls := "com/example/meterwright/meterwright/usage/UsageRecord", name := "resource", desc := "()Ljava/lang/String;" } : Jvm.MethodName) ({ cls := "com/example/meterwright/meterwright/usage/UsageRecord", name := "resource", desc := "()Ljava/lang/String;" } : Jvm.MethodName)).before a0 Z = true := hw _ (List.mem_of_getElem? (i := 138) rfl)
theorem wd_139 {a0 : Array Value} {Z : State} (hw : ∀ d ∈ tables_1, d.before a0 Z = true) : (Jvm.Cond.code ({ cls := "com/example/meterwright/meterwright/usage/UsageRecord", name := "resource", desc := "()Ljava/lang/String;" } : Jvm.MethodName) prog_68_method_11_code (1 : Nat) (Option.some (Jvm.ClassFile.FieldType.object "java/lang/String"))).before a0 Z = true := hw _ (List.mem_of_getElem? (i := 139) rfl)
theorem wd_140 {a0 : Array Value} {Z : State} (hw : ∀ d ∈ tables_1, d.before a0 Z = true) : (Jvm.Cond.methodLink "com/example/meterwright/meterwright/snapshot/Holding" (31 : Nat) ({ cls := "com/example/meterwright/meterwright/usage/UsageRecord", name := "meter", desc := "()Ljava/lang/String;" } : Jvm.MethodName)).before a0 Z = true := hw _ (List.mem_of_getElem? (i := 140) rfl)
theorem wd_141 {a0 : Array Value} {Z : State} (hw : ∀ d ∈ tables_1, d.before a0 Z = true) : (Jvm.Cond.declares ({ cls := "com/example/meterwright/meterwright/usage/UsageRecord", name := "meter", desc := "()Ljava/lang/String;" } : Jvm.MethodName)).before a0 Z = true := hw _ (List.mem_of_getElem? (i := 141) rfl)
theorem wd_142 {a0 : Array Value} {Z : State} (hw : ∀ d ∈ tables_1, d.before a0 Z = true) : (Jvm.Cond.instanceMethod ({ cls := "com/example/meterwright/meterwright/usage/UsageRecord", name := "meter", desc := "()Ljava/lang/String;" } : Jvm.MethodName)).before a0 Z = true := hw _ (List.mem_of_getElem? (i := 142) rfl)
theorem wd_143 {a0 : Array Value} {Z : State} (hw : ∀ d ∈ tables_1, d.before a0 Z = true) : (Jvm.Cond.selects "com/example/meterwright/meterwright/usage/UsageRecord" ({ cls := "com/example/meterwright/meterwright/usage/UsageRecord", name := "meter", desc := "()Ljava/lang/String;" } : Jvm.MethodName) ({ cls := "com/example/meterwright/meterwright/usage/UsageRecord", name := "meter", desc := "()Ljava/lang/String;" } : Jvm.MethodName)).before a0 Z = true := hw _ (List.mem_of_getElem? (i := 143) rfl)
theorem wd_144 {a0 : Array Value} {Z : State} (hw : ∀ d ∈ tables_1, d.before a0 Z = true) : (Jvm.Cond.code ({ cls := "com/example/meterwright/meterwright/usage/UsageRecord", name := "meter", desc := "()Ljava/lang/String;" } : Jvm.MethodName) prog_68_method_12_code (1 : Nat) (Option.some (Jvm.ClassFile.FieldType.object "java/lang/String"))).before a0 Z = true := hw _ (List.mem_of_getElem? (i := 144) rfl)
theorem wd_145 {a0 : Array Value} {Z : State} (hw : ∀ d ∈ tables_1, d.before a0 Z = true) : (Jvm.Cond.methodLink "com/example/meterwright/meterwright/snapshot/Holding" (33 : Nat) ({ cls := "com/example/meterwright/meterwright/snapshot/Holding", name := "<init>", desc := "(Ljava/lang/String;Ljava/lang/String;Ljava/lang/String;Ljava/lang/String;)V" } : Jvm.MethodName)).before a0 Z = true := hw _ (List.mem_of_getElem? (i := 145) rfl)
theorem wd_146 {a0 : Array Value} {Z : State} (hw : ∀ d ∈ tables_1, d.before a0 Z = true) : (Jvm.Cond.instanceMethod ({ cls := "com/example/meterwright/meterwright/snapshot/Holding", name := "<init>", desc := "(Ljava/lang/String;Ljava/lang/String;Ljava/lang/String;Ljava/lang/String;)V" } : Jvm.MethodName)).before a0 Z = true := hw _ (List.mem_of_getElem? (i := 146) rfl)
theorem wd_147 {a0 : Array Value} {Z : State} (hw : ∀ d ∈ tables_1, d.before a0 Z = true) : (Jvm.Cond.code ({ cls := "com/example/meterwright/meterwright/snapshot/Holding", name := "<init>", desc := "(Ljava/lang/String;Ljava/lang/String;Ljava/lang/String;Ljava/lang/String;)V" } : Jvm.MethodName) prog_57_method_1_code (5 : Nat) (Option.none : Option Jvm.ClassFile.FieldType)).before a0 Z = true := hw _ (List.mem_of_getElem? (i := 147) rfl)
theorem wd_148 {a0 : Array Value} {Z : State} (hw : ∀ d ∈ tables_1, d.before a0 Z = true) : (Jvm.Cond.methodLink "com/example/meterwright/meterwright/snapshot/Holding" (1 : Nat) ({ cls := "java/lang/Object", name := "<init>", desc := "()V" } : Jvm.MethodName)).before a0 Z = true := hw _ (List.mem_of_getElem? (i := 148) rfl)
theorem wd_149 {a0 : Array Value} {Z : State} (hw : ∀ d ∈ tables_1, d.before a0 Z = true) : (Jvm.Cond.fieldLink "com/example/meterwright/meterwright/snapshot/Holding" (7 : Nat) "com/example/meterwright/meterwright/snapshot/Holding" "tenant" "Ljava/lang/String;").before a0 Z = true := hw _ (List.mem_of_getElem? (i := 149) rfl)
theorem wd_150 {a0 : Array Value} {Z : State} (hw : ∀ d ∈ tables_1, d.before a0 Z = true) : (Jvm.Cond.laysFinal "com/example/meterwright/meterwright/snapshot/Holding" "com/example/meterwright/meterwright/snapshot/Holding" "tenant" "Ljava/lang/String;").before a0 Z = true := hw _ (List.mem_of_getElem? (i := 150) rfl)
theorem wd_151 {a0 : Array Value} {Z : State} (hw : ∀ d ∈ tables_1, d.before a0 Z = true) : (Jvm.Cond.fieldLink "com/example/meterwright/meterwright/snapshot/Holding" (13 : Nat) "com/example/meterwright/meterwright/snapshot/Holding" "project" "Ljava/lang/String;").before a0 Z = true := hw _ (List.mem_of_getElem? (i := 151) rfl)
theorem wd_152 {a0 : Array Value} {Z : State} (hw : ∀ d ∈ tables_1, d.before a0 Z = true) : (Jvm.Cond.laysFinal "com/example/meterwright/meterwright/snapshot/Holding" "com/example/meterwright/meterwright/snapshot/Holding" "project" "Ljava/lang/String;").before a0 Z = true := hw _ (List.mem_of_getElem? (i := 152) rfl)
theorem wd_153 {a0 : Array Value} {Z : State} (hw : ∀ d ∈ tables_1, d.before a0 Z = true) : (Jvm.Cond.fieldLink "com/example/meterwright/meterwright/snapshot/Holding" (16 : Nat) "com/example/meterwright/meterwright/snapshot/Holding" "resource" "Ljava/lang/String;").before a0 Z = true := hw _ (List.mem_of_getElem? (i := 153) rfl)
theorem wd_154 {a0 : Array Value} {Z : State} (hw : ∀ d ∈ tables_1, d.before a0 Z = true) : (Jvm.Cond.laysFinal "com/example/meterwright/meterwright/snapshot/Holding" "com/example/meterwright/meterwright/snapshot/Holding" "resource" "Ljava/lang/String;").before a0 Z = true := hw _ (List.mem_of_getElem? (i := 154) rfl)
theorem wd_155 {a0 : Array Value} {Z : State} (hw : ∀ d ∈ tables_1, d.before a0 Z = true) : (Jvm.Cond.fieldLink "com/example/meterwright/meterwright/snapshot/Holding" (19 : Nat) "com/example/meterwright/meterwright/snapshot/Holding" "meter" "Ljava/lang/String;").before a0 Z = true := hw _ (List.mem_of_getElem? (i := 155) rfl)
theorem wd_156 {a0 : Array Value} {Z : State} (hw : ∀ d ∈ tables_1, d.before a0 Z = true) : (Jvm.Cond.laysFinal "com/example/meterwright/meterwright/snapshot/Holding" "com/example/meterwright/meterwright/snapshot/Holding" "meter" "Ljava/lang/String;").before a0 Z = true := hw _ (List.mem_of_getElem? (i := 156) rfl)
theorem wd_157 {a0 : Array Value} {Z : State} (hw : ∀ d ∈ tables_1, d.before a0 Z = true) : (Jvm.Cond.fieldLink "com/example/meterwright/meterwright/snapshot/HoldingOfPinLaw" (44 : Nat) "com/example/meterwright/meterwright/usage/Attributes" "NONE" "Lcom/example/meterwright/meterwright/usage/Attributes;").before a0 Z = true := hw _ (List.mem_of_getElem? (i := 157) rfl)
theorem wd_158 {a0 : Array Value} {Z : State} (hw : ∀ d ∈ tables_1, d.before a0 Z = true) : (Jvm.Cond.methodLink "com/example/meterwright/meterwright/snapshot/HoldingOfPinLaw" (50 : Nat) ({ cls := "com/example/meterwright/meterwright/usage/UsageRecord", name := "set", desc := "(Ljava/time/Instant;Ljava/time/Instant;Ljava/lang/String;Ljava/lang/String;Ljava/lang/String;Ljava/lang/String;Ljava/math/BigDecimal;Lcom/example/meterwright/meterwright/pricing/MeterKind;ZLcom/example/meterwright/meterwright/usage/Attributes;Ljava/lang/String;)Lcom/example/meterwright/meterwright/usage/UsageRecord;" } : Jvm.MethodName)).before a0 Z = true := hw _ (List.mem_of_getElem? (i := 158) rfl)
theorem wd_159 {a0 : Array Value} {Z : State} (hw : ∀ d ∈ tables_1, d.before a0 Z = true) : (Jvm.Cond.methodLink "com/example/meterwright/meterwright/snapshot/HoldingOfPinLaw" (54 : Nat) ({ cls := "com/example/meterwright/meterwright/snapshot/Holding", name := "tenant", desc := "()Ljava/lang/String;" } : Jvm.MethodName)).before a0 Z = true := hw _ (List.mem_of_getElem? (i := 159) rfl)
theorem wd_160 {a0 : Array Value} {Z : State} (hw : ∀ d ∈ tables_1, d.before a0 Z = true) : (Jvm.Cond.declares ({ cls := "com/example/meterwright/meterwright/snapshot/Holding", name := "tenant", desc := "()Ljava/lang/String;" } : Jvm.MethodName)).before a0 Z = true := hw _ (List.mem_of_getElem? (i := 160) rfl)
theorem wd_161 {a0 : Array Value} {Z : State} (hw : ∀ d ∈ tables_1, d.before a0 Z = true) : (Jvm.Cond.instanceMethod ({ cls := "com/example/meterwright/meterwright/snapshot/Holding", name := "tenant", desc := "()Ljava/lang/String;" } : Jvm.MethodName)).before a0 Z = true := hw _ (List.mem_of_getElem? (i := 161) rfl)
theorem wd_162 {a0 : Array Value} {Z : State} (hw : ∀ d ∈ tables_1, d.before a0 Z = true) : (Jvm.Cond.selects "com/example/meterwright/meterwright/snapshot/Holding" ({ cls := "com/example/meterwright/meterwright/snapshot/Holding", name := "tenant", desc := "()Ljava/lang/String;" } : Jvm.MethodName) ({ cls := "com/example/meterwright/meterwright/snapshot/Holding", name := "tenant", desc := "()Ljava/lang/String;" } : Jvm.MethodName)).before a0 Z = true := hw _ (List.mem_of_getElem? (i := 162) rfl)
theorem wd_163 {a0 : Array Value} {Z : State} (hw : ∀ d ∈ tables_1, d.before a0 Z = true) : (Jvm.Cond.code ({ cls := "com/example/meterwright/meterwright/snapshot/Holding", name := "tenant", desc := "()Ljava/lang/String;" } : Jvm.MethodName) prog_57_method_3_code (1 : Nat) (Option.some (Jvm.ClassFile.FieldType.object "java/lang/String"))).before a0 Z = true := hw _ (List.mem_of_getElem? (i := 163) rfl)
theorem wd_164 {a0 : Array Value} {Z : State} (hw : ∀ d ∈ tables_1, d.before a0 Z = true) : (Jvm.Cond.methodLink "com/example/meterwright/meterwright/snapshot/HoldingOfPinLaw" (58 : Nat) ({ cls := "java/lang/String", name := "equals", desc := "(Ljava/lang/Object;)Z" } : Jvm.MethodName)).before a0 Z = true := hw _ (List.mem_of_getElem? (i := 164) rfl)
theorem wd_165 {a0 : Array Value} {Z : State} (hw : ∀ d ∈ tables_1, d.before a0 Z = true) : (Jvm.Cond.declares ({ cls := "java/lang/String", name := "equals", desc := "(Ljava/lang/Object;)Z" } : Jvm.MethodName)).before a0 Z = true := hw _ (List.mem_of_getElem? (i := 165) rfl)
theorem wd_166 {a0 : Array Value} {Z : State} (hw : ∀ d ∈ tables_1, d.before a0 Z = true) : (Jvm.Cond.instanceMethod ({ cls := "java/lang/String", name := "equals", desc := "(Ljava/lang/Object;)Z" } : Jvm.MethodName)).before a0 Z = true := hw _ (List.mem_of_getElem? (i := 166) rfl)
theorem wd_167 {a0 : Array Value} {Z : State} (hw : ∀ d ∈ tables_1, d.before a0 Z = true) : (Jvm.Cond.selects "java/lang/String" ({ cls := "java/lang/String", name := "equals", desc := "(Ljava/lang/Object;)Z" } : Jvm.MethodName) ({ cls := "java/lang/String", name := "equals", desc := "(Ljava/lang/Object;)Z" } : Jvm.MethodName)).before a0 Z = true := hw _ (List.mem_of_getElem? (i := 167) rfl)
theorem wd_168 {a0 : Array Value} {Z : State} (hw : ∀ d ∈ tables_1, d.before a0 Z = true) : (Jvm.Cond.code ({ cls := "java/lang/String", name := "equals", desc := "(Ljava/lang/Object;)Z" } : Jvm.MethodName) jdk_42_method_66_code (3 : Nat) (Option.some Jvm.ClassFile.FieldType.boolean)).before a0 Z = true := hw _ (List.mem_of_getElem? (i := 168) rfl)
theorem wd_169 {a0 : Array Value} {Z : State} (hw : ∀ d ∈ tables_1, d.before a0 Z = true) : (Jvm.Cond.methodLink "com/example/meterwright/meterwright/snapshot/HoldingOfPinLaw" (62 : Nat) ({ cls := "com/example/meterwright/meterwright/snapshot/Holding", name := "project", desc := "()Ljava/lang/String;" } : Jvm.MethodName)).before a0 Z = true := hw _ (List.mem_of_getElem? (i := 169) rfl)
theorem wd_170 {a0 : Array Value} {Z : State} (hw : ∀ d ∈ tables_1, d.before a0 Z = true) : (Jvm.Cond.declares ({ cls := "com/example/meterwright/meterwright/snapshot/Holding", name := "project", desc := "()Ljava/lang/String;" } : Jvm.MethodName)).before a0 Z = true := hw _ (List.mem_of_getElem? (i := 170) rfl)
theorem wd_171 {a0 : Array Value} {Z : State} (hw : ∀ d ∈ tables_1, d.before a0 Z = true) : (Jvm.Cond.instanceMethod ({ cls := "com/example/meterwright/meterwright/snapshot/Holding", name := "project", desc := "()Ljava/lang/String;" } : Jvm.MethodName)).before a0 Z = true := hw _ (List.mem_of_getElem? (i := 171) rfl)
theorem wd_172 {a0 : Array Value} {Z : State} (hw : ∀ d ∈ tables_1, d.before a0 Z = true) : (Jvm.Cond.selects "com/example/meterwright/meterwright/snapshot/Holding" ({ cls := "com/example/meterwright/meterwright/snapshot/Holding", name := "project", desc := "()Ljava/lang/String;" } : Jvm.MethodName) ({ cls := "com/example/meterwright/meterwright/snapshot/Holding", name := "project", desc := "()Ljava/lang/String;" } : Jvm.MethodName)).before a0 Z = true := hw _ (List.mem_of_getElem? (i := 172) rfl)
theorem wd_173 {a0 : Array Value} {Z : State} (hw : ∀ d ∈ tables_1, d.before a0 Z = true) : (Jvm.Cond.code ({ cls := "com/example/meterwright/meterwright/snapshot/Holding", name := "project", desc := "()Ljava/lang/String;" } : Jvm.MethodName) prog_57_method_4_code (1 : Nat) (Option.some (Jvm.ClassFile.FieldType.object "java/lang/String"))).before a0 Z = true := hw _ (List.mem_of_getElem? (i := 173) rfl)
theorem wd_174 {a0 : Array Value} {Z : State} (hw : ∀ d ∈ tables_1, d.before a0 Z = true) : (Jvm.Cond.methodLink "com/example/meterwright/meterwright/snapshot/HoldingOfPinLaw" (65 : Nat) ({ cls := "com/example/meterwright/meterwright/snapshot/Holding", name := "resource", desc := "()Ljava/lang/String;" } : Jvm.MethodName)).before a0 Z = true := hw _ (List.mem_of_getElem? (i := 174) rfl)
theorem wd_175 {a0 : Array Value} {Z : State} (hw : ∀ d ∈ tables_1, d.before a0 Z = true) : (Jvm.Cond.declares ({ cls := "com/example/meterwright/meterwright/snapshot/Holding", name := "resource", desc := "()Ljava/lang/String;" } : Jvm.MethodName)).before a0 Z = true := hw _ (List.mem_of_getElem? (i := 175) rfl)
theorem wd_176 {a0 : Array Value} {Z : State} (hw : ∀ d ∈ tables_1, d.before a0 Z = true) : (Jvm.Cond.instanceMethod ({ cls := "com/example/meterwright/meterwright/snapshot/Holding", name := "resource", desc := "()Ljava/lang/String;" } : Jvm.MethodName)).before a0 Z = true := hw _ (List.mem_of_getElem? (i := 176) rfl)
theorem wd_177 {a0 : Array Value} {Z : State} (hw : ∀ d ∈ tables_1, d.before a0 Z = true) : (Jvm.Cond.selects "com/example/meterwright/meterwright/snapshot/Holding" ({ cls := "com/example/meterwright/meterwright/snapshot/Holding", name := "resource", desc := "()Ljava/lang/String;" } : Jvm.MethodName) ({ cls := "com/example/meterwright/meterwright/snapshot/Holding", name := "resource", desc := "()Ljava/lang/String;" } : Jvm.MethodName)).before a0 Z = true := hw _ (List.mem_of_getElem? (i := 177) rfl)
theorem wd_178 {a0 : Array Value} {Z : State} (hw : ∀ d ∈ tables_1, d.before a0 Z = true) : (Jvm.Cond.code ({ cls := "com/example/meterwright/meterwright/snapshot/Holding", name := "resource", desc := "()Ljava/lang/String;" } : Jvm.MethodName) prog_57_method_5_code (1 : Nat) (Option.some (Jvm.ClassFile.FieldType.object "java/lang/String"))).before a0 Z = true := hw _ (List.mem_of_getElem? (i := 178) rfl)
theorem wd_179 {a0 : Array Value} {Z : State} (hw : ∀ d ∈ tables_1, d.before a0 Z = true) : (Jvm.Cond.methodLink "com/example/meterwright/meterwright/snapshot/HoldingOfPinLaw" (68 : Nat) ({ cls := "com/example/meterwright/meterwright/snapshot/Holding", name := "meter", desc := "()Ljava/lang/String;" } : Jvm.MethodName)).before a0 Z = true := hw _ (List.mem_of_getElem? (i := 179) rfl)
theorem wd_180 {a0 : Array Value} {Z : State} (hw : ∀ d ∈ tables_1, d.before a0 Z = true) : (Jvm.Cond.declares ({ cls := "com/example/meterwright/meterwright/snapshot/Holding", name := "meter", desc := "()Ljava/lang/String;" } : Jvm.MethodName)).before a0 Z = true := hw _ (List.mem_of_getElem? (i := 180) rfl)
theorem wd_181 {a0 : Array Value} {Z : State} (hw : ∀ d ∈ tables_1, d.before a0 Z = true) : (Jvm.Cond.instanceMethod ({ cls := "com/example/meterwright/meterwright/snapshot/Holding", name := "meter", desc := "()Ljava/lang/String;" } : Jvm.MethodName)).before a0 Z = true := hw _ (List.mem_of_getElem? (i := 181) rfl)
theorem wd_182 {a0 : Array Value} {Z : State} (hw : ∀ d ∈ tables_1, d.before a0 Z = true) : (Jvm.Cond.selects "com/example/meterwright/meterwright/snapshot/Holding" ({ cls := "com/example/meterwright/meterwright/snapshot/Holding", name := "meter", desc := "()Ljava/lang/String;" } : Jvm.MethodName) ({ cls := "com/example/meterwright/meterwright/snapshot/Holding", name := "meter", desc := "()Ljava/lang/String;" } : Jvm.MethodName)).before a0 Z = true := hw _ (List.mem_of_getElem? (i := 182) rfl)
theorem wd_183 {a0 : Array Value} {Z : State} (hw : ∀ d ∈ tables_1, d.before a0 Z = true) : (Jvm.Cond.code ({ cls := "com/example/meterwright/meterwright/snapshot/Holding", name := "meter", desc := "()Ljava/lang/String;" } : Jvm.MethodName) prog_57_method_6_code (1 : Nat) (Option.some (Jvm.ClassFile.FieldType.object "java/lang/String"))).before a0 Z = true := hw _ (List.mem_of_getElem? (i := 183) rfl)
theorem own_wS {a0 : Array Value} {Z : State} (hw : ∀ d ∈ tables_1, d.before a0 Z = true) : ∀ a ∈ Bundle.stringAtoms, a.before a0 Z = true := by
  intro d hd
  simp only [Bundle.stringAtoms, List.mem_cons, List.not_mem_nil, or_false] at hd
  rcases hd with rfl | rfl | rfl | rfl | rfl | rfl | rfl
  · exact (wd_6 hw)
  · exact (wd_5 hw)
  · exact (wd_23 hw)
  · exact (wd_33 hw)
  · exact (wd_31 hw)
  · exact (wd_74 hw)
  · exact (wd_75 hw)
theorem d_0 : Dc code 0 (.iload_n 0) 1 1 := ⟨at_0, rfl⟩
theorem d_1 : Dc code 1 (.invokestatic 12) 3 4 := ⟨at_1, rfl⟩
theorem d_4 : Dc code 4 (.astore 5) 2 6 := ⟨at_4, rfl⟩
theorem d_6 : Dc code 6 (.iload_n 1) 1 7 := ⟨at_6, rfl⟩
theorem d_7 : Dc code 7 (.invokestatic 12) 3 10 := ⟨at_7, rfl⟩
theorem d_10 : Dc code 10 (.astore 6) 2 12 := ⟨at_10, rfl⟩
theorem d_12 : Dc code 12 (.iload_n 2) 1 13 := ⟨at_12, rfl⟩
theorem d_13 : Dc code 13 (.invokestatic 12) 3 16 := ⟨at_13, rfl⟩
theorem d_16 : Dc code 16 (.astore 7) 2 18 := ⟨at_16, rfl⟩
theorem d_18 : Dc code 18 (.iload_n 3) 1 19 := ⟨at_18, rfl⟩
theorem d_19 : Dc code 19 (.invokestatic 12) 3 22 := ⟨at_19, rfl⟩
theorem d_22 : Dc code 22 (.astore 8) 2 24 := ⟨at_22, rfl⟩
theorem d_24 : Dc code 24 (.iload 4) 2 26 := ⟨at_24, rfl⟩
theorem d_26 : Dc code 26 (.iconst 1) 1 27 := ⟨at_26, rfl⟩
theorem d_27 : Dc code 27 (.iand) 1 28 := ⟨at_27, rfl⟩
theorem d_28 : Bc code 28 (.ifCond .eq) 35 31 := ⟨7, at_28, by decide, by decide, rfl⟩
theorem d_31 : Dc code 31 (.iconst 1) 1 32 := ⟨at_31, rfl⟩
theorem d_32 : Bc code 32 (.goto) 36 35 := ⟨4, at_32, by decide, by decide, rfl⟩
theorem d_35 : Dc code 35 (.iconst 0) 1 36 := ⟨at_35, rfl⟩
theorem d_36 : Dc code 36 (.istore 9) 2 38 := ⟨at_36, rfl⟩
theorem d_38 : Dc code 38 (.new 18) 3 41 := ⟨at_38, rfl⟩
theorem d_41 : Dc code 41 (.dup) 1 42 := ⟨at_41, rfl⟩
theorem d_42 : Dc code 42 (.getstatic 20) 3 45 := ⟨at_42, rfl⟩
theorem d_45 : Dc code 45 (.getstatic 26) 3 48 := ⟨at_45, rfl⟩
theorem d_48 : Dc code 48 (.aload 5) 2 50 := ⟨at_48, rfl⟩
theorem d_50 : Dc code 50 (.aload 6) 2 52 := ⟨at_50, rfl⟩
theorem d_52 : Dc code 52 (.aload 7) 2 54 := ⟨at_52, rfl⟩
theorem d_54 : Dc code 54 (.aload 8) 2 56 := ⟨at_54, rfl⟩
theorem d_56 : Dc code 56 (.getstatic 29) 3 59 := ⟨at_56, rfl⟩
theorem d_59 : Dc code 59 (.aconst_null) 1 60 := ⟨at_59, rfl⟩
theorem d_60 : Dc code 60 (.iload 9) 2 62 := ⟨at_60, rfl⟩
theorem d_62 : Dc code 62 (.invokespecial 35) 3 65 := ⟨at_62, rfl⟩
theorem d_65 : Dc code 65 (.astore 10) 2 67 := ⟨at_65, rfl⟩
theorem d_67 : Dc code 67 (.aload 10) 2 69 := ⟨at_67, rfl⟩
theorem d_69 : Dc code 69 (.invokestatic 38) 3 72 := ⟨at_69, rfl⟩
theorem d_72 : Dc code 72 (.astore 11) 2 74 := ⟨at_72, rfl⟩
theorem d_74 : Dc code 74 (.aload 10) 2 76 := ⟨at_74, rfl⟩
theorem d_76 : Dc code 76 (.getstatic 20) 3 79 := ⟨at_76, rfl⟩
theorem d_79 : Dc code 79 (.getstatic 26) 3 82 := ⟨at_79, rfl⟩
theorem d_82 : Dc code 82 (.aload 6) 2 84 := ⟨at_82, rfl⟩
theorem d_84 : Dc code 84 (.aload 7) 2 86 := ⟨at_84, rfl⟩
theorem d_86 : Dc code 86 (.aload 8) 2 88 := ⟨at_86, rfl⟩
theorem d_88 : Dc code 88 (.aload 5) 2 90 := ⟨at_88, rfl⟩
theorem d_90 : Dc code 90 (.getstatic 29) 3 93 := ⟨at_90, rfl⟩
theorem d_93 : Dc code 93 (.aconst_null) 1 94 := ⟨at_93, rfl⟩
theorem d_94 : Dc code 94 (.iload 9) 2 96 := ⟨at_94, rfl⟩
theorem d_96 : Bc code 96 (.ifCond .ne) 103 99 := ⟨7, at_96, by decide, by decide, rfl⟩
theorem d_99 : Dc code 99 (.iconst 1) 1 100 := ⟨at_99, rfl⟩
theorem d_100 : Bc code 100 (.goto) 104 103 := ⟨4, at_100, by decide, by decide, rfl⟩
theorem d_103 : Dc code 103 (.iconst 0) 1 104 := ⟨at_103, rfl⟩
theorem d_104 : Dc code 104 (.getstatic 44) 3 107 := ⟨at_104, rfl⟩
theorem d_107 : Dc code 107 (.aconst_null) 1 108 := ⟨at_107, rfl⟩
theorem d_108 : Dc code 108 (.invokevirtual 50) 3 111 := ⟨at_108, rfl⟩
theorem d_111 : Dc code 111 (.pop) 1 112 := ⟨at_111, rfl⟩
theorem d_112 : Dc code 112 (.aload 11) 2 114 := ⟨at_112, rfl⟩
theorem d_114 : Dc code 114 (.invokevirtual 54) 3 117 := ⟨at_114, rfl⟩
theorem d_117 : Dc code 117 (.aload 5) 2 119 := ⟨at_117, rfl⟩
theorem d_119 : Dc code 119 (.invokevirtual 58) 3 122 := ⟨at_119, rfl⟩
theorem d_122 : Bc code 122 (.ifCond .eq) 168 125 := ⟨46, at_122, by decide, by decide, rfl⟩
theorem d_125 : Dc code 125 (.aload 11) 2 127 := ⟨at_125, rfl⟩
theorem d_127 : Dc code 127 (.invokevirtual 62) 3 130 := ⟨at_127, rfl⟩
theorem d_130 : Dc code 130 (.aload 6) 2 132 := ⟨at_130, rfl⟩
theorem d_132 : Dc code 132 (.invokevirtual 58) 3 135 := ⟨at_132, rfl⟩
theorem d_135 : Bc code 135 (.ifCond .eq) 168 138 := ⟨33, at_135, by decide, by decide, rfl⟩
theorem d_138 : Dc code 138 (.aload 11) 2 140 := ⟨at_138, rfl⟩
theorem d_140 : Dc code 140 (.invokevirtual 65) 3 143 := ⟨at_140, rfl⟩
theorem d_143 : Dc code 143 (.aload 7) 2 145 := ⟨at_143, rfl⟩
theorem d_145 : Dc code 145 (.invokevirtual 58) 3 148 := ⟨at_145, rfl⟩
theorem d_148 : Bc code 148 (.ifCond .eq) 168 151 := ⟨20, at_148, by decide, by decide, rfl⟩
theorem d_151 : Dc code 151 (.aload 11) 2 153 := ⟨at_151, rfl⟩
theorem d_153 : Dc code 153 (.invokevirtual 68) 3 156 := ⟨at_153, rfl⟩
theorem d_156 : Dc code 156 (.aload 8) 2 158 := ⟨at_156, rfl⟩
theorem d_158 : Dc code 158 (.invokevirtual 58) 3 161 := ⟨at_158, rfl⟩
theorem d_161 : Bc code 161 (.ifCond .eq) 168 164 := ⟨7, at_161, by decide, by decide, rfl⟩
theorem d_164 : Dc code 164 (.iconst 1) 1 165 := ⟨at_164, rfl⟩
theorem d_165 : Bc code 165 (.goto) 169 168 := ⟨4, at_165, by decide, by decide, rfl⟩
theorem d_169 : Dc code 169 (.ireturn) 1 170 := ⟨at_169, rfl⟩
theorem djdk_2320_41_0 : Dc jdk_2320_method_41_code 0 (.aload_n 0) 1 1 := ⟨by decide +kernel, rfl⟩
theorem djdk_2320_41_1 : Dc jdk_2320_method_41_code 1 (.getfield 140) 3 4 := ⟨by decide +kernel, rfl⟩
theorem djdk_2320_41_4 : Dc jdk_2320_method_41_code 4 (.aload_n 1) 1 5 := ⟨by decide +kernel, rfl⟩
theorem djdk_2320_41_5 : Dc jdk_2320_method_41_code 5 (.getfield 140) 3 8 := ⟨by decide +kernel, rfl⟩
theorem djdk_2320_41_8 : Dc jdk_2320_method_41_code 8 (.invokestatic 367) 3 11 := ⟨by decide +kernel, rfl⟩
theorem djdk_2320_41_11 : Dc jdk_2320_method_41_code 11 (.istore_n 2) 1 12 := ⟨by decide +kernel, rfl⟩
theorem djdk_2320_41_12 : Dc jdk_2320_method_41_code 12 (.iload_n 2) 1 13 := ⟨by decide +kernel, rfl⟩
theorem djdk_2320_41_13 : Bc jdk_2320_method_41_code 13 (.ifCond .eq) 18 16 := ⟨5, by decide +kernel, by decide, by decide, rfl⟩
theorem djdk_2320_41_16 : Dc jdk_2320_method_41_code 16 (.iload_n 2) 1 17 := ⟨by decide +kernel, rfl⟩
theorem djdk_2320_41_17 : Dc jdk_2320_method_41_code 17 (.ireturn) 1 18 := ⟨by decide +kernel, rfl⟩
theorem djdk_2320_42_0 : Dc jdk_2320_method_42_code 0 (.aload_n 0) 1 1 := ⟨by decide +kernel, rfl⟩
theorem djdk_2320_42_1 : Dc jdk_2320_method_42_code 1 (.aload_n 1) 1 2 := ⟨by decide +kernel, rfl⟩
theorem djdk_2320_42_2 : Dc jdk_2320_method_42_code 2 (.invokevirtual 371) 3 5 := ⟨by decide +kernel, rfl⟩
theorem djdk_2320_42_5 : Bc jdk_2320_method_42_code 5 (.ifCond .le) 12 8 := ⟨7, by decide +kernel, by decide, by decide, rfl⟩
theorem djdk_2320_42_8 : Dc jdk_2320_method_42_code 8 (.iconst 1) 1 9 := ⟨by decide +kernel, rfl⟩
theorem djdk_2320_42_9 : Bc jdk_2320_method_42_code 9 (.goto) 13 12 := ⟨4, by decide +kernel, by decide, by decide, rfl⟩
theorem djdk_2320_42_13 : Dc jdk_2320_method_42_code 13 (.ireturn) 1 14 := ⟨by decide +kernel, rfl⟩
theorem djdk_31_11_0 : Dc jdk_31_method_11_code 0 (.aload_n 0) 1 1 := ⟨by decide +kernel, rfl⟩
theorem djdk_31_11_1 : Bc jdk_31_method_11_code 1 (.ifnonnull) 13 4 := ⟨12, by decide +kernel, by decide, by decide, rfl⟩
theorem djdk_31_11_13 : Dc jdk_31_method_11_code 13 (.aload_n 0) 1 14 := ⟨by decide +kernel, rfl⟩
theorem djdk_31_11_14 : Dc jdk_31_method_11_code 14 (.areturn) 1 15 := ⟨by decide +kernel, rfl⟩
theorem djdk_35_42_0 : Dc jdk_35_method_42_code 0 (.lload_n 0) 1 1 := ⟨by decide +kernel, rfl⟩
theorem djdk_35_42_1 : Dc jdk_35_method_42_code 1 (.lload_n 2) 1 2 := ⟨by decide +kernel, rfl⟩
theorem djdk_35_42_2 : Dc jdk_35_method_42_code 2 (.lcmp) 1 3 := ⟨by decide +kernel, rfl⟩
theorem djdk_35_42_3 : Bc jdk_35_method_42_code 3 (.ifCond .ge) 10 6 := ⟨7, by decide +kernel, by decide, by decide, rfl⟩
theorem djdk_35_42_10 : Dc jdk_35_method_42_code 10 (.lload_n 0) 1 11 := ⟨by decide +kernel, rfl⟩
theorem djdk_35_42_11 : Dc jdk_35_method_42_code 11 (.lload_n 2) 1 12 := ⟨by decide +kernel, rfl⟩
theorem djdk_35_42_12 : Dc jdk_35_method_42_code 12 (.lcmp) 1 13 := ⟨by decide +kernel, rfl⟩
theorem djdk_35_42_13 : Bc jdk_35_method_42_code 13 (.ifCond .ne) 20 16 := ⟨7, by decide +kernel, by decide, by decide, rfl⟩
theorem djdk_35_42_20 : Dc jdk_35_method_42_code 20 (.iconst 1) 1 21 := ⟨by decide +kernel, rfl⟩
theorem djdk_35_42_21 : Dc jdk_35_method_42_code 21 (.ireturn) 1 22 := ⟨by decide +kernel, rfl⟩
theorem djdk_42_149_0 : Dc jdk_42_method_149_code 0 (.aload_n 0) 1 1 := ⟨by decide +kernel, rfl⟩
theorem djdk_42_149_1 : Dc jdk_42_method_149_code 1 (.invokespecial 1) 3 4 := ⟨by decide +kernel, rfl⟩
theorem djdk_42_149_4 : Dc jdk_42_method_149_code 4 (.iload_n 3) 1 5 := ⟨by decide +kernel, rfl⟩
theorem djdk_42_149_5 : Bc jdk_42_method_149_code 5 (.ifCond .ne) 27 8 := ⟨22, by decide +kernel, by decide, by decide, rfl⟩
theorem djdk_42_149_27 : Dc jdk_42_method_149_code 27 (.getstatic 38) 3 30 := ⟨by decide +kernel, rfl⟩
theorem djdk_42_149_30 : Bc jdk_42_method_149_code 30 (.ifCond .eq) 58 33 := ⟨28, by decide +kernel, by decide, by decide, rfl⟩
theorem djdk_42_149_33 : Dc jdk_42_method_149_code 33 (.aload_n 1) 1 34 := ⟨by decide +kernel, rfl⟩
theorem djdk_42_149_34 : Dc jdk_42_method_149_code 34 (.iload_n 2) 1 35 := ⟨by decide +kernel, rfl⟩
theorem djdk_42_149_35 : Dc jdk_42_method_149_code 35 (.iload_n 3) 1 36 := ⟨by decide +kernel, rfl⟩
theorem djdk_42_149_36 : Dc jdk_42_method_149_code 36 (.invokestatic 177) 3 39 := ⟨by decide +kernel, rfl⟩
theorem djdk_42_149_39 : Dc jdk_42_method_149_code 39 (.astore 5) 2 41 := ⟨by decide +kernel, rfl⟩
theorem djdk_42_149_41 : Dc jdk_42_method_149_code 41 (.aload_n 0) 1 42 := ⟨by decide +kernel, rfl⟩
theorem djdk_42_149_42 : Dc jdk_42_method_149_code 42 (.aload 5) 2 44 := ⟨by decide +kernel, rfl⟩
theorem djdk_42_149_44 : Dc jdk_42_method_149_code 44 (.iload_n 3) 1 45 := ⟨by decide +kernel, rfl⟩
theorem djdk_42_149_45 : Dc jdk_42_method_149_code 45 (.invokestatic 47) 3 48 := ⟨by decide +kernel, rfl⟩
theorem djdk_42_149_48 : Dc jdk_42_method_149_code 48 (.putfield 15) 3 51 := ⟨by decide +kernel, rfl⟩
theorem djdk_42_149_51 : Dc jdk_42_method_149_code 51 (.aload_n 0) 1 52 := ⟨by decide +kernel, rfl⟩
theorem djdk_42_149_52 : Dc jdk_42_method_149_code 52 (.aload 5) 2 54 := ⟨by decide +kernel, rfl⟩
theorem djdk_42_149_54 : Dc jdk_42_method_149_code 54 (.putfield 9) 3 57 := ⟨by decide +kernel, rfl⟩
theorem djdk_42_149_57 : Dc jdk_42_method_149_code 57 (.return_) 1 58 := ⟨by decide +kernel, rfl⟩
theorem djdk_42_3_0 : Dc jdk_42_method_3_code 0 (.aload_n 0) 1 1 := ⟨by decide +kernel, rfl⟩
theorem djdk_42_3_1 : Dc jdk_42_method_3_code 1 (.aload_n 1) 1 2 := ⟨by decide +kernel, rfl⟩
theorem djdk_42_3_2 : Dc jdk_42_method_3_code 2 (.iconst 0) 1 3 := ⟨by decide +kernel, rfl⟩
theorem djdk_42_3_3 : Dc jdk_42_method_3_code 3 (.aload_n 1) 1 4 := ⟨by decide +kernel, rfl⟩
theorem djdk_42_3_4 : Dc jdk_42_method_3_code 4 (.arraylength) 1 5 := ⟨by decide +kernel, rfl⟩
theorem djdk_42_3_5 : Dc jdk_42_method_3_code 5 (.aconst_null) 1 6 := ⟨by decide +kernel, rfl⟩
theorem djdk_42_3_6 : Dc jdk_42_method_3_code 6 (.invokespecial 27) 3 9 := ⟨by decide +kernel, rfl⟩
theorem djdk_42_3_9 : Dc jdk_42_method_3_code 9 (.return_) 1 10 := ⟨by decide +kernel, rfl⟩
theorem djdk_42_55_0 : Dc jdk_42_method_55_code 0 (.aload_n 0) 1 1 := ⟨by decide +kernel, rfl⟩
theorem djdk_42_55_1 : Dc jdk_42_method_55_code 1 (.getfield 9) 3 4 := ⟨by decide +kernel, rfl⟩
theorem djdk_42_55_4 : Dc jdk_42_method_55_code 4 (.arraylength) 1 5 := ⟨by decide +kernel, rfl⟩
theorem djdk_42_55_5 : Bc jdk_42_method_55_code 5 (.ifCond .ne) 12 8 := ⟨7, by decide +kernel, by decide, by decide, rfl⟩
theorem djdk_42_55_12 : Dc jdk_42_method_55_code 12 (.iconst 0) 1 13 := ⟨by decide +kernel, rfl⟩
theorem djdk_42_55_13 : Dc jdk_42_method_55_code 13 (.ireturn) 1 14 := ⟨by decide +kernel, rfl⟩
theorem djdk_42_66_0 : Dc jdk_42_method_66_code 0 (.aload_n 0) 1 1 := ⟨by decide +kernel, rfl⟩
theorem djdk_42_66_1 : Dc jdk_42_method_66_code 1 (.aload_n 1) 1 2 := ⟨by decide +kernel, rfl⟩
theorem djdk_42_66_2 : Bc jdk_42_method_66_code 2 (.if_acmp .ne) 7 5 := ⟨5, by decide +kernel, by decide, by decide, rfl⟩
theorem djdk_42_66_5 : Dc jdk_42_method_66_code 5 (.iconst 1) 1 6 := ⟨by decide +kernel, rfl⟩
theorem djdk_42_66_6 : Dc jdk_42_method_66_code 6 (.ireturn) 1 7 := ⟨by decide +kernel, rfl⟩
theorem djdk_52_15_0 : Dc jdk_52_method_15_code 0 (.iload_n 1) 1 1 := ⟨by decide +kernel, rfl⟩
theorem djdk_52_15_1 : Dc jdk_52_method_15_code 1 (.aload_n 0) 1 2 := ⟨by decide +kernel, rfl⟩
theorem djdk_52_15_2 : Dc jdk_52_method_15_code 2 (.arraylength) 1 3 := ⟨by decide +kernel, rfl⟩
theorem djdk_52_15_3 : Dc jdk_52_method_15_code 3 (.isub) 1 4 := ⟨by decide +kernel, rfl⟩
theorem djdk_52_15_4 : Dc jdk_52_method_15_code 4 (.bipush 31) 2 6 := ⟨by decide +kernel, rfl⟩
theorem djdk_52_15_6 : Dc jdk_52_method_15_code 6 (.iushr) 1 7 := ⟨by decide +kernel, rfl⟩
theorem djdk_52_15_7 : Dc jdk_52_method_15_code 7 (.i2b) 1 8 := ⟨by decide +kernel, rfl⟩
theorem djdk_52_15_8 : Dc jdk_52_method_15_code 8 (.ireturn) 1 9 := ⟨by decide +kernel, rfl⟩
theorem djdk_52_16_0 : Dc jdk_52_method_16_code 0 (.iload_n 2) 1 1 := ⟨by decide +kernel, rfl⟩
theorem djdk_52_16_1 : Dc jdk_52_method_16_code 1 (.newarray .byte) 2 3 := ⟨by decide +kernel, rfl⟩
theorem djdk_52_16_3 : Dc jdk_52_method_16_code 3 (.astore_n 3) 1 4 := ⟨by decide +kernel, rfl⟩
theorem djdk_52_16_4 : Dc jdk_52_method_16_code 4 (.aload_n 0) 1 5 := ⟨by decide +kernel, rfl⟩
theorem djdk_52_16_5 : Dc jdk_52_method_16_code 5 (.iload_n 1) 1 6 := ⟨by decide +kernel, rfl⟩
theorem djdk_52_16_6 : Dc jdk_52_method_16_code 6 (.aload_n 3) 1 7 := ⟨by decide +kernel, rfl⟩
theorem djdk_52_16_7 : Dc jdk_52_method_16_code 7 (.iconst 0) 1 8 := ⟨by decide +kernel, rfl⟩
theorem djdk_52_16_8 : Dc jdk_52_method_16_code 8 (.iload_n 2) 1 9 := ⟨by decide +kernel, rfl⟩
theorem djdk_52_16_9 : Dc jdk_52_method_16_code 9 (.invokestatic 115) 3 12 := ⟨by decide +kernel, rfl⟩
theorem djdk_52_16_12 : Dc jdk_52_method_16_code 12 (.istore 4) 2 14 := ⟨by decide +kernel, rfl⟩
theorem djdk_52_16_14 : Dc jdk_52_method_16_code 14 (.iload 4) 2 16 := ⟨by decide +kernel, rfl⟩
theorem djdk_52_16_16 : Dc jdk_52_method_16_code 16 (.iload_n 2) 1 17 := ⟨by decide +kernel, rfl⟩
theorem djdk_52_16_17 : Bc jdk_52_method_16_code 17 (.if_icmp .eq) 57 20 := ⟨40, by decide +kernel, by decide, by decide, rfl⟩
theorem djdk_52_16_57 : Dc jdk_52_method_16_code 57 (.aload_n 3) 1 58 := ⟨by decide +kernel, rfl⟩
theorem djdk_52_16_58 : Dc jdk_52_method_16_code 58 (.areturn) 1 59 := ⟨by decide +kernel, rfl⟩
theorem djdk_52_21_0 : Dc jdk_52_method_21_code 0 (.iconst 0) 1 1 := ⟨by decide +kernel, rfl⟩
theorem djdk_52_21_1 : Dc jdk_52_method_21_code 1 (.istore 5) 2 3 := ⟨by decide +kernel, rfl⟩
theorem djdk_52_21_3 : Dc jdk_52_method_21_code 3 (.iload 5) 2 5 := ⟨by decide +kernel, rfl⟩
theorem djdk_52_21_5 : Dc jdk_52_method_21_code 5 (.iload 4) 2 7 := ⟨by decide +kernel, rfl⟩
theorem djdk_52_21_7 : Bc jdk_52_method_21_code 7 (.if_icmp .ge) 44 10 := ⟨37, by decide +kernel, by decide, by decide, rfl⟩
theorem djdk_52_21_10 : Dc jdk_52_method_21_code 10 (.aload_n 0) 1 11 := ⟨by decide +kernel, rfl⟩
theorem djdk_52_21_11 : Dc jdk_52_method_21_code 11 (.iload_n 1) 1 12 := ⟨by decide +kernel, rfl⟩
theorem djdk_52_21_12 : Dc jdk_52_method_21_code 12 (.caload) 1 13 := ⟨by decide +kernel, rfl⟩
theorem djdk_52_21_13 : Dc jdk_52_method_21_code 13 (.istore 6) 2 15 := ⟨by decide +kernel, rfl⟩
theorem djdk_52_21_15 : Dc jdk_52_method_21_code 15 (.iload 6) 2 17 := ⟨by decide +kernel, rfl⟩
theorem djdk_52_21_17 : Dc jdk_52_method_21_code 17 (.sipush 255) 3 20 := ⟨by decide +kernel, rfl⟩
theorem djdk_52_21_20 : Bc jdk_52_method_21_code 20 (.if_icmp .le) 26 23 := ⟨6, by decide +kernel, by decide, by decide, rfl⟩
theorem djdk_52_21_26 : Dc jdk_52_method_21_code 26 (.aload_n 2) 1 27 := ⟨by decide +kernel, rfl⟩
theorem djdk_52_21_27 : Dc jdk_52_method_21_code 27 (.iload_n 3) 1 28 := ⟨by decide +kernel, rfl⟩
theorem djdk_52_21_28 : Dc jdk_52_method_21_code 28 (.iload 6) 2 30 := ⟨by decide +kernel, rfl⟩
theorem djdk_52_21_30 : Dc jdk_52_method_21_code 30 (.i2b) 1 31 := ⟨by decide +kernel, rfl⟩
theorem djdk_52_21_31 : Dc jdk_52_method_21_code 31 (.bastore) 1 32 := ⟨by decide +kernel, rfl⟩
theorem djdk_52_21_32 : Dc jdk_52_method_21_code 32 (.iinc 1 1) 3 35 := ⟨by decide +kernel, rfl⟩
theorem djdk_52_21_35 : Dc jdk_52_method_21_code 35 (.iinc 3 1) 3 38 := ⟨by decide +kernel, rfl⟩
theorem djdk_52_21_38 : Dc jdk_52_method_21_code 38 (.iinc 5 1) 3 41 := ⟨by decide +kernel, rfl⟩
theorem djdk_52_21_41 : Bc jdk_52_method_21_code 41 (.goto) 3 44 := ⟨(-38), by decide +kernel, by decide, by decide, rfl⟩
theorem djdk_52_21_44 : Dc jdk_52_method_21_code 44 (.iload 4) 2 46 := ⟨by decide +kernel, rfl⟩
theorem djdk_52_21_46 : Dc jdk_52_method_21_code 46 (.ireturn) 1 47 := ⟨by decide +kernel, rfl⟩
theorem d2_0 : Dc method_2_code 0 (.iload_n 0) 1 1 := ⟨by decide +kernel, rfl⟩
theorem d2_1 : Dc method_2_code 1 (.sipush 255) 3 4 := ⟨by decide +kernel, rfl⟩
theorem d2_4 : Dc method_2_code 4 (.iand) 1 5 := ⟨by decide +kernel, rfl⟩
theorem d2_5 : Dc method_2_code 5 (.i2c) 1 6 := ⟨by decide +kernel, rfl⟩
theorem d2_6 : Dc method_2_code 6 (.istore_n 1) 1 7 := ⟨by decide +kernel, rfl⟩
theorem d2_7 : Dc method_2_code 7 (.iload_n 0) 1 8 := ⟨by decide +kernel, rfl⟩
theorem d2_8 : Dc method_2_code 8 (.bipush 8) 2 10 := ⟨by decide +kernel, rfl⟩
theorem d2_10 : Dc method_2_code 10 (.iushr) 1 11 := ⟨by decide +kernel, rfl⟩
theorem d2_11 : Dc method_2_code 11 (.sipush 255) 3 14 := ⟨by decide +kernel, rfl⟩
theorem d2_14 : Dc method_2_code 14 (.iand) 1 15 := ⟨by decide +kernel, rfl⟩
theorem d2_15 : Dc method_2_code 15 (.i2c) 1 16 := ⟨by decide +kernel, rfl⟩
theorem d2_16 : Dc method_2_code 16 (.istore_n 2) 1 17 := ⟨by decide +kernel, rfl⟩
theorem d2_17 : Dc method_2_code 17 (.iload_n 0) 1 18 := ⟨by decide +kernel, rfl⟩
theorem d2_18 : Dc method_2_code 18 (.bipush 16) 2 20 := ⟨by decide +kernel, rfl⟩
theorem d2_20 : Dc method_2_code 20 (.iushr) 1 21 := ⟨by decide +kernel, rfl⟩
theorem d2_21 : Dc method_2_code 21 (.iconst 1) 1 22 := ⟨by decide +kernel, rfl⟩
theorem d2_22 : Dc method_2_code 22 (.iand) 1 23 := ⟨by decide +kernel, rfl⟩
theorem d2_23 : Bc method_2_code 23 (.ifCond .ne) 41 26 := ⟨18, by decide +kernel, by decide, by decide, rfl⟩
theorem d2_26 : Dc method_2_code 26 (.new 7) 3 29 := ⟨by decide +kernel, rfl⟩
theorem d2_29 : Dc method_2_code 29 (.dup) 1 30 := ⟨by decide +kernel, rfl⟩
theorem d2_30 : Dc method_2_code 30 (.iconst 1) 1 31 := ⟨by decide +kernel, rfl⟩
theorem d2_31 : Dc method_2_code 31 (.newarray .char) 2 33 := ⟨by decide +kernel, rfl⟩
theorem d2_33 : Dc method_2_code 33 (.dup) 1 34 := ⟨by decide +kernel, rfl⟩
theorem d2_34 : Dc method_2_code 34 (.iconst 0) 1 35 := ⟨by decide +kernel, rfl⟩
theorem d2_35 : Dc method_2_code 35 (.iload_n 1) 1 36 := ⟨by decide +kernel, rfl⟩
theorem d2_36 : Dc method_2_code 36 (.castore) 1 37 := ⟨by decide +kernel, rfl⟩
theorem d2_37 : Dc method_2_code 37 (.invokespecial 9) 3 40 := ⟨by decide +kernel, rfl⟩
theorem d2_40 : Dc method_2_code 40 (.areturn) 1 41 := ⟨by decide +kernel, rfl⟩
theorem d2_41 : Dc method_2_code 41 (.new 7) 3 44 := ⟨by decide +kernel, rfl⟩
theorem d2_44 : Dc method_2_code 44 (.dup) 1 45 := ⟨by decide +kernel, rfl⟩
theorem d2_45 : Dc method_2_code 45 (.iconst 2) 1 46 := ⟨by decide +kernel, rfl⟩
theorem d2_46 : Dc method_2_code 46 (.newarray .char) 2 48 := ⟨by decide +kernel, rfl⟩
theorem d2_48 : Dc method_2_code 48 (.dup) 1 49 := ⟨by decide +kernel, rfl⟩
theorem d2_49 : Dc method_2_code 49 (.iconst 0) 1 50 := ⟨by decide +kernel, rfl⟩
theorem d2_50 : Dc method_2_code 50 (.iload_n 1) 1 51 := ⟨by decide +kernel, rfl⟩
theorem d2_51 : Dc method_2_code 51 (.castore) 1 52 := ⟨by decide +kernel, rfl⟩
theorem d2_52 : Dc method_2_code 52 (.dup) 1 53 := ⟨by decide +kernel, rfl⟩
theorem d2_53 : Dc method_2_code 53 (.iconst 1) 1 54 := ⟨by decide +kernel, rfl⟩
theorem d2_54 : Dc method_2_code 54 (.iload_n 2) 1 55 := ⟨by decide +kernel, rfl⟩
theorem d2_55 : Dc method_2_code 55 (.castore) 1 56 := ⟨by decide +kernel, rfl⟩
theorem d2_56 : Dc method_2_code 56 (.invokespecial 9) 3 59 := ⟨by decide +kernel, rfl⟩
theorem d2_59 : Dc method_2_code 59 (.areturn) 1 60 := ⟨by decide +kernel, rfl⟩
theorem dprog_57_1_0 : Dc prog_57_method_1_code 0 (.aload_n 0) 1 1 := ⟨by decide +kernel, rfl⟩
theorem dprog_57_1_1 : Dc prog_57_method_1_code 1 (.invokespecial 1) 3 4 := ⟨by decide +kernel, rfl⟩
theorem dprog_57_1_4 : Dc prog_57_method_1_code 4 (.aload_n 0) 1 5 := ⟨by decide +kernel, rfl⟩
theorem dprog_57_1_5 : Dc prog_57_method_1_code 5 (.aload_n 1) 1 6 := ⟨by decide +kernel, rfl⟩
theorem dprog_57_1_6 : Dc prog_57_method_1_code 6 (.putfield 7) 3 9 := ⟨by decide +kernel, rfl⟩
theorem dprog_57_1_9 : Dc prog_57_method_1_code 9 (.aload_n 0) 1 10 := ⟨by decide +kernel, rfl⟩
theorem dprog_57_1_10 : Dc prog_57_method_1_code 10 (.aload_n 2) 1 11 := ⟨by decide +kernel, rfl⟩
theorem dprog_57_1_11 : Dc prog_57_method_1_code 11 (.putfield 13) 3 14 := ⟨by decide +kernel, rfl⟩
theorem dprog_57_1_14 : Dc prog_57_method_1_code 14 (.aload_n 0) 1 15 := ⟨by decide +kernel, rfl⟩
theorem dprog_57_1_15 : Dc prog_57_method_1_code 15 (.aload_n 3) 1 16 := ⟨by decide +kernel, rfl⟩
theorem dprog_57_1_16 : Dc prog_57_method_1_code 16 (.putfield 16) 3 19 := ⟨by decide +kernel, rfl⟩
theorem dprog_57_1_19 : Dc prog_57_method_1_code 19 (.aload_n 0) 1 20 := ⟨by decide +kernel, rfl⟩
theorem dprog_57_1_20 : Dc prog_57_method_1_code 20 (.aload 4) 2 22 := ⟨by decide +kernel, rfl⟩
theorem dprog_57_1_22 : Dc prog_57_method_1_code 22 (.putfield 19) 3 25 := ⟨by decide +kernel, rfl⟩
theorem dprog_57_1_25 : Dc prog_57_method_1_code 25 (.return_) 1 26 := ⟨by decide +kernel, rfl⟩
theorem dprog_57_2_0 : Dc prog_57_method_2_code 0 (.new 8) 3 3 := ⟨by decide +kernel, rfl⟩
theorem dprog_57_2_3 : Dc prog_57_method_2_code 3 (.dup) 1 4 := ⟨by decide +kernel, rfl⟩
theorem dprog_57_2_4 : Dc prog_57_method_2_code 4 (.aload_n 0) 1 5 := ⟨by decide +kernel, rfl⟩
theorem dprog_57_2_5 : Dc prog_57_method_2_code 5 (.invokevirtual 22) 3 8 := ⟨by decide +kernel, rfl⟩
theorem dprog_57_2_8 : Dc prog_57_method_2_code 8 (.aload_n 0) 1 9 := ⟨by decide +kernel, rfl⟩
theorem dprog_57_2_9 : Dc prog_57_method_2_code 9 (.invokevirtual 27) 3 12 := ⟨by decide +kernel, rfl⟩
theorem dprog_57_2_12 : Dc prog_57_method_2_code 12 (.aload_n 0) 1 13 := ⟨by decide +kernel, rfl⟩
theorem dprog_57_2_13 : Dc prog_57_method_2_code 13 (.invokevirtual 29) 3 16 := ⟨by decide +kernel, rfl⟩
theorem dprog_57_2_16 : Dc prog_57_method_2_code 16 (.aload_n 0) 1 17 := ⟨by decide +kernel, rfl⟩
theorem dprog_57_2_17 : Dc prog_57_method_2_code 17 (.invokevirtual 31) 3 20 := ⟨by decide +kernel, rfl⟩
theorem dprog_57_2_20 : Dc prog_57_method_2_code 20 (.invokespecial 33) 3 23 := ⟨by decide +kernel, rfl⟩
theorem dprog_57_2_23 : Dc prog_57_method_2_code 23 (.areturn) 1 24 := ⟨by decide +kernel, rfl⟩
theorem dprog_57_3_0 : Dc prog_57_method_3_code 0 (.aload_n 0) 1 1 := ⟨by decide +kernel, rfl⟩
theorem dprog_57_3_1 : Dc prog_57_method_3_code 1 (.getfield 7) 3 4 := ⟨by decide +kernel, rfl⟩
theorem dprog_57_3_4 : Dc prog_57_method_3_code 4 (.areturn) 1 5 := ⟨by decide +kernel, rfl⟩
theorem dprog_57_4_0 : Dc prog_57_method_4_code 0 (.aload_n 0) 1 1 := ⟨by decide +kernel, rfl⟩
theorem dprog_57_4_1 : Dc prog_57_method_4_code 1 (.getfield 13) 3 4 := ⟨by decide +kernel, rfl⟩
theorem dprog_57_4_4 : Dc prog_57_method_4_code 4 (.areturn) 1 5 := ⟨by decide +kernel, rfl⟩
theorem dprog_57_5_0 : Dc prog_57_method_5_code 0 (.aload_n 0) 1 1 := ⟨by decide +kernel, rfl⟩
theorem dprog_57_5_1 : Dc prog_57_method_5_code 1 (.getfield 16) 3 4 := ⟨by decide +kernel, rfl⟩
theorem dprog_57_5_4 : Dc prog_57_method_5_code 4 (.areturn) 1 5 := ⟨by decide +kernel, rfl⟩
theorem dprog_57_6_0 : Dc prog_57_method_6_code 0 (.aload_n 0) 1 1 := ⟨by decide +kernel, rfl⟩
theorem dprog_57_6_1 : Dc prog_57_method_6_code 1 (.getfield 19) 3 4 := ⟨by decide +kernel, rfl⟩
theorem dprog_57_6_4 : Dc prog_57_method_6_code 4 (.areturn) 1 5 := ⟨by decide +kernel, rfl⟩
theorem dprog_68_10_0 : Dc prog_68_method_10_code 0 (.aload_n 0) 1 1 := ⟨by decide +kernel, rfl⟩
theorem dprog_68_10_1 : Dc prog_68_method_10_code 1 (.getfield 67) 3 4 := ⟨by decide +kernel, rfl⟩
theorem dprog_68_10_4 : Dc prog_68_method_10_code 4 (.areturn) 1 5 := ⟨by decide +kernel, rfl⟩
theorem dprog_68_11_0 : Dc prog_68_method_11_code 0 (.aload_n 0) 1 1 := ⟨by decide +kernel, rfl⟩
theorem dprog_68_11_1 : Dc prog_68_method_11_code 1 (.getfield 69) 3 4 := ⟨by decide +kernel, rfl⟩
theorem dprog_68_11_4 : Dc prog_68_method_11_code 4 (.areturn) 1 5 := ⟨by decide +kernel, rfl⟩
theorem dprog_68_12_0 : Dc prog_68_method_12_code 0 (.aload_n 0) 1 1 := ⟨by decide +kernel, rfl⟩
theorem dprog_68_12_1 : Dc prog_68_method_12_code 1 (.getfield 71) 3 4 := ⟨by decide +kernel, rfl⟩
theorem dprog_68_12_4 : Dc prog_68_method_12_code 4 (.areturn) 1 5 := ⟨by decide +kernel, rfl⟩
theorem dprog_68_1_0 : Dc prog_68_method_1_code 0 (.aload_n 0) 1 1 := ⟨by decide +kernel, rfl⟩
theorem dprog_68_1_1 : Dc prog_68_method_1_code 1 (.aload_n 1) 1 2 := ⟨by decide +kernel, rfl⟩
theorem dprog_68_1_2 : Dc prog_68_method_1_code 2 (.aload_n 2) 1 3 := ⟨by decide +kernel, rfl⟩
theorem dprog_68_1_3 : Dc prog_68_method_1_code 3 (.aload_n 3) 1 4 := ⟨by decide +kernel, rfl⟩
theorem dprog_68_1_4 : Dc prog_68_method_1_code 4 (.aload 4) 2 6 := ⟨by decide +kernel, rfl⟩
theorem dprog_68_1_6 : Dc prog_68_method_1_code 6 (.aload 5) 2 8 := ⟨by decide +kernel, rfl⟩
theorem dprog_68_1_8 : Dc prog_68_method_1_code 8 (.aload 6) 2 10 := ⟨by decide +kernel, rfl⟩
theorem dprog_68_1_10 : Dc prog_68_method_1_code 10 (.aload 7) 2 12 := ⟨by decide +kernel, rfl⟩
theorem dprog_68_1_12 : Dc prog_68_method_1_code 12 (.aload 8) 2 14 := ⟨by decide +kernel, rfl⟩
theorem dprog_68_1_14 : Dc prog_68_method_1_code 14 (.iload 9) 2 16 := ⟨by decide +kernel, rfl⟩
theorem dprog_68_1_16 : Dc prog_68_method_1_code 16 (.getstatic 1) 3 19 := ⟨by decide +kernel, rfl⟩
theorem dprog_68_1_19 : Dc prog_68_method_1_code 19 (.aconst_null) 1 20 := ⟨by decide +kernel, rfl⟩
theorem dprog_68_1_20 : Dc prog_68_method_1_code 20 (.invokespecial 7) 3 23 := ⟨by decide +kernel, rfl⟩
theorem dprog_68_1_23 : Dc prog_68_method_1_code 23 (.return_) 1 24 := ⟨by decide +kernel, rfl⟩
theorem dprog_68_2_0 : Dc prog_68_method_2_code 0 (.aload_n 0) 1 1 := ⟨by decide +kernel, rfl⟩
theorem dprog_68_2_1 : Dc prog_68_method_2_code 1 (.invokespecial 13) 3 4 := ⟨by decide +kernel, rfl⟩
theorem dprog_68_2_4 : Dc prog_68_method_2_code 4 (.aload_n 0) 1 5 := ⟨by decide +kernel, rfl⟩
theorem dprog_68_2_5 : Dc prog_68_method_2_code 5 (.aload_n 1) 1 6 := ⟨by decide +kernel, rfl⟩
theorem dprog_68_2_6 : Dc prog_68_method_2_code 6 (.aload_n 2) 1 7 := ⟨by decide +kernel, rfl⟩
theorem dprog_68_2_7 : Dc prog_68_method_2_code 7 (.aload_n 3) 1 8 := ⟨by decide +kernel, rfl⟩
theorem dprog_68_2_8 : Dc prog_68_method_2_code 8 (.aload 4) 2 10 := ⟨by decide +kernel, rfl⟩
theorem dprog_68_2_10 : Dc prog_68_method_2_code 10 (.aload 5) 2 12 := ⟨by decide +kernel, rfl⟩
theorem dprog_68_2_12 : Dc prog_68_method_2_code 12 (.aload 6) 2 14 := ⟨by decide +kernel, rfl⟩
theorem dprog_68_2_14 : Dc prog_68_method_2_code 14 (.aload 7) 2 16 := ⟨by decide +kernel, rfl⟩
theorem dprog_68_2_16 : Dc prog_68_method_2_code 16 (.aload 8) 2 18 := ⟨by decide +kernel, rfl⟩
theorem dprog_68_2_18 : Dc prog_68_method_2_code 18 (.iload 9) 2 20 := ⟨by decide +kernel, rfl⟩
theorem dprog_68_2_20 : Dc prog_68_method_2_code 20 (.aload 10) 2 22 := ⟨by decide +kernel, rfl⟩
theorem dprog_68_2_22 : Dc prog_68_method_2_code 22 (.aload 11) 2 24 := ⟨by decide +kernel, rfl⟩
theorem dprog_68_2_24 : Dc prog_68_method_2_code 24 (.invokevirtual 18) 3 27 := ⟨by decide +kernel, rfl⟩
theorem dprog_68_2_27 : Dc prog_68_method_2_code 27 (.pop) 1 28 := ⟨by decide +kernel, rfl⟩
theorem dprog_68_2_28 : Dc prog_68_method_2_code 28 (.return_) 1 29 := ⟨by decide +kernel, rfl⟩
theorem dprog_68_4_0 : Dc prog_68_method_4_code 0 (.aload_n 2) 1 1 := ⟨by decide +kernel, rfl⟩
theorem dprog_68_4_1 : Dc prog_68_method_4_code 1 (.aload_n 1) 1 2 := ⟨by decide +kernel, rfl⟩
theorem dprog_68_4_2 : Dc prog_68_method_4_code 2 (.invokevirtual 22) 3 5 := ⟨by decide +kernel, rfl⟩
theorem dprog_68_4_5 : Bc prog_68_method_4_code 5 (.ifCond .ne) 29 8 := ⟨24, by decide +kernel, by decide, by decide, rfl⟩
theorem dprog_68_4_29 : Dc prog_68_method_4_code 29 (.aload_n 3) 1 30 := ⟨by decide +kernel, rfl⟩
theorem dprog_68_4_30 : Dc prog_68_method_4_code 30 (.ldc 43) 2 32 := ⟨by decide +kernel, rfl⟩
theorem dprog_68_4_32 : Dc prog_68_method_4_code 32 (.invokestatic 45) 3 35 := ⟨by decide +kernel, rfl⟩
theorem dprog_68_4_35 : Dc prog_68_method_4_code 35 (.aload 4) 2 37 := ⟨by decide +kernel, rfl⟩
theorem dprog_68_4_37 : Dc prog_68_method_4_code 37 (.ldc 49) 2 39 := ⟨by decide +kernel, rfl⟩
theorem dprog_68_4_39 : Dc prog_68_method_4_code 39 (.invokestatic 45) 3 42 := ⟨by decide +kernel, rfl⟩
theorem dprog_68_4_42 : Dc prog_68_method_4_code 42 (.aload 5) 2 44 := ⟨by decide +kernel, rfl⟩
theorem dprog_68_4_44 : Dc prog_68_method_4_code 44 (.ldc 51) 2 46 := ⟨by decide +kernel, rfl⟩
theorem dprog_68_4_46 : Dc prog_68_method_4_code 46 (.invokestatic 45) 3 49 := ⟨by decide +kernel, rfl⟩
theorem dprog_68_4_49 : Dc prog_68_method_4_code 49 (.aload 6) 2 51 := ⟨by decide +kernel, rfl⟩
theorem dprog_68_4_51 : Dc prog_68_method_4_code 51 (.ldc 53) 2 53 := ⟨by decide +kernel, rfl⟩
theorem dprog_68_4_53 : Dc prog_68_method_4_code 53 (.invokestatic 45) 3 56 := ⟨by decide +kernel, rfl⟩
theorem dprog_68_4_56 : Dc prog_68_method_4_code 56 (.aload 11) 2 58 := ⟨by decide +kernel, rfl⟩
theorem dprog_68_4_58 : Bc prog_68_method_4_code 58 (.ifnull) 68 61 := ⟨10, by decide +kernel, by decide, by decide, rfl⟩
theorem dprog_68_4_68 : Dc prog_68_method_4_code 68 (.aload_n 0) 1 69 := ⟨by decide +kernel, rfl⟩
theorem dprog_68_4_69 : Dc prog_68_method_4_code 69 (.aload_n 1) 1 70 := ⟨by decide +kernel, rfl⟩
theorem dprog_68_4_70 : Dc prog_68_method_4_code 70 (.putfield 57) 3 73 := ⟨by decide +kernel, rfl⟩
theorem dprog_68_4_73 : Dc prog_68_method_4_code 73 (.aload_n 0) 1 74 := ⟨by decide +kernel, rfl⟩
theorem dprog_68_4_74 : Dc prog_68_method_4_code 74 (.aload_n 2) 1 75 := ⟨by decide +kernel, rfl⟩
theorem dprog_68_4_75 : Dc prog_68_method_4_code 75 (.putfield 61) 3 78 := ⟨by decide +kernel, rfl⟩
theorem dprog_68_4_78 : Dc prog_68_method_4_code 78 (.aload_n 0) 1 79 := ⟨by decide +kernel, rfl⟩
theorem dprog_68_4_79 : Dc prog_68_method_4_code 79 (.aload_n 3) 1 80 := ⟨by decide +kernel, rfl⟩
theorem dprog_68_4_80 : Dc prog_68_method_4_code 80 (.putfield 64) 3 83 := ⟨by decide +kernel, rfl⟩
theorem dprog_68_4_83 : Dc prog_68_method_4_code 83 (.aload_n 0) 1 84 := ⟨by decide +kernel, rfl⟩
theorem dprog_68_4_84 : Dc prog_68_method_4_code 84 (.aload 4) 2 86 := ⟨by decide +kernel, rfl⟩
theorem dprog_68_4_86 : Dc prog_68_method_4_code 86 (.putfield 67) 3 89 := ⟨by decide +kernel, rfl⟩
theorem dprog_68_4_89 : Dc prog_68_method_4_code 89 (.aload_n 0) 1 90 := ⟨by decide +kernel, rfl⟩
theorem dprog_68_4_90 : Dc prog_68_method_4_code 90 (.aload 5) 2 92 := ⟨by decide +kernel, rfl⟩
theorem dprog_68_4_92 : Dc prog_68_method_4_code 92 (.putfield 69) 3 95 := ⟨by decide +kernel, rfl⟩
theorem dprog_68_4_95 : Dc prog_68_method_4_code 95 (.aload_n 0) 1 96 := ⟨by decide +kernel, rfl⟩
theorem dprog_68_4_96 : Dc prog_68_method_4_code 96 (.aload 6) 2 98 := ⟨by decide +kernel, rfl⟩
theorem dprog_68_4_98 : Dc prog_68_method_4_code 98 (.putfield 71) 3 101 := ⟨by decide +kernel, rfl⟩
theorem dprog_68_4_101 : Dc prog_68_method_4_code 101 (.aload_n 0) 1 102 := ⟨by decide +kernel, rfl⟩
theorem dprog_68_4_102 : Dc prog_68_method_4_code 102 (.aload 7) 2 104 := ⟨by decide +kernel, rfl⟩
theorem dprog_68_4_104 : Dc prog_68_method_4_code 104 (.ldc 73) 2 106 := ⟨by decide +kernel, rfl⟩
theorem dprog_68_4_106 : Dc prog_68_method_4_code 106 (.invokestatic 75) 3 109 := ⟨by decide +kernel, rfl⟩
theorem dprog_68_4_109 : Dc prog_68_method_4_code 109 (.checkcast 81) 3 112 := ⟨by decide +kernel, rfl⟩
theorem dprog_68_4_112 : Dc prog_68_method_4_code 112 (.putfield 83) 3 115 := ⟨by decide +kernel, rfl⟩
theorem dprog_68_4_115 : Dc prog_68_method_4_code 115 (.aload_n 0) 1 116 := ⟨by decide +kernel, rfl⟩
theorem dprog_68_4_116 : Dc prog_68_method_4_code 116 (.aload 8) 2 118 := ⟨by decide +kernel, rfl⟩
theorem dprog_68_4_118 : Dc prog_68_method_4_code 118 (.putfield 86) 3 121 := ⟨by decide +kernel, rfl⟩
theorem dprog_68_4_121 : Dc prog_68_method_4_code 121 (.aload_n 0) 1 122 := ⟨by decide +kernel, rfl⟩
theorem dprog_68_4_122 : Dc prog_68_method_4_code 122 (.iload 9) 2 124 := ⟨by decide +kernel, rfl⟩
theorem dprog_68_4_124 : Dc prog_68_method_4_code 124 (.putfield 90) 3 127 := ⟨by decide +kernel, rfl⟩
theorem dprog_68_4_127 : Dc prog_68_method_4_code 127 (.aload_n 0) 1 128 := ⟨by decide +kernel, rfl⟩
theorem dprog_68_4_128 : Dc prog_68_method_4_code 128 (.aload 10) 2 130 := ⟨by decide +kernel, rfl⟩
theorem dprog_68_4_130 : Dc prog_68_method_4_code 130 (.ldc 94) 2 132 := ⟨by decide +kernel, rfl⟩
theorem dprog_68_4_132 : Dc prog_68_method_4_code 132 (.invokestatic 75) 3 135 := ⟨by decide +kernel, rfl⟩
theorem dprog_68_4_135 : Dc prog_68_method_4_code 135 (.checkcast 2) 3 138 := ⟨by decide +kernel, rfl⟩
theorem dprog_68_4_138 : Dc prog_68_method_4_code 138 (.putfield 96) 3 141 := ⟨by decide +kernel, rfl⟩
theorem dprog_68_4_141 : Dc prog_68_method_4_code 141 (.aload_n 0) 1 142 := ⟨by decide +kernel, rfl⟩
theorem dprog_68_4_142 : Dc prog_68_method_4_code 142 (.aload 11) 2 144 := ⟨by decide +kernel, rfl⟩
theorem dprog_68_4_144 : Dc prog_68_method_4_code 144 (.putfield 98) 3 147 := ⟨by decide +kernel, rfl⟩
theorem dprog_68_4_147 : Dc prog_68_method_4_code 147 (.aload_n 0) 1 148 := ⟨by decide +kernel, rfl⟩
theorem dprog_68_4_148 : Dc prog_68_method_4_code 148 (.areturn) 1 149 := ⟨by decide +kernel, rfl⟩
theorem dprog_68_6_0 : Dc prog_68_method_6_code 0 (.aload_n 0) 1 1 := ⟨by decide +kernel, rfl⟩
theorem dprog_68_6_1 : Dc prog_68_method_6_code 1 (.invokevirtual 100) 3 4 := ⟨by decide +kernel, rfl⟩
theorem dprog_68_6_4 : Bc prog_68_method_6_code 4 (.ifCond .eq) 21 7 := ⟨17, by decide +kernel, by decide, by decide, rfl⟩
theorem dprog_68_6_21 : Dc prog_68_method_6_code 21 (.return_) 1 22 := ⟨by decide +kernel, rfl⟩
theorem dprog_68_9_0 : Dc prog_68_method_9_code 0 (.aload_n 0) 1 1 := ⟨by decide +kernel, rfl⟩
theorem dprog_68_9_1 : Dc prog_68_method_9_code 1 (.getfield 64) 3 4 := ⟨by decide +kernel, rfl⟩
theorem dprog_68_9_4 : Dc prog_68_method_9_code 4 (.areturn) 1 5 := ⟨by decide +kernel, rfl⟩
theorem pd_0 : parseMethodDescriptor "(JJ)I" = some ⟨[.long, .long], some .int⟩ := by decide +kernel
theorem pd_1 : parseMethodDescriptor "(Ljava/time/Instant;)I" = some ⟨[(.object "java/time/Instant")], some .int⟩ := by decide +kernel
theorem pd_2 : parseMethodDescriptor "()Z" = some ⟨[], some .boolean⟩ := by decide +kernel
theorem pd_3 : parseMethodDescriptor "(Ljava/time/Instant;)Z" = some ⟨[(.object "java/time/Instant")], some .boolean⟩ := by decide +kernel
theorem pd_4 : parseMethodDescriptor "(Ljava/lang/String;Ljava/lang/String;)V" = some ⟨[(.object "java/lang/String"), (.object "java/lang/String")], none⟩ := by decide +kernel
theorem pd_5 : parseMethodDescriptor "(Ljava/lang/Object;Ljava/lang/String;)Ljava/lang/Object;" = some ⟨[(.object "java/lang/Object"), (.object "java/lang/String")], some (.object "java/lang/Object")⟩ := by decide +kernel
theorem pd_6 : parseMethodDescriptor "(Ljava/time/Instant;Ljava/time/Instant;Ljava/lang/String;Ljava/lang/String;Ljava/lang/String;Ljava/lang/String;Ljava/math/BigDecimal;Lcom/example/meterwright/meterwright/pricing/MeterKind;ZLcom/example/meterwright/meterwright/usage/Attributes;Ljava/lang/String;)Lcom/example/meterwright/meterwright/usage/UsageRecord;" = some ⟨[(.object "java/time/Instant"), (.object "java/time/Instant"), (.object "java/lang/String"), (.object "java/lang/String"), (.object "java/lang/String"), (.object "java/lang/String"), (.object "java/math/BigDecimal"), (.object "com/example/meterwright/meterwright/pricing/MeterKind"), .boolean, (.object "com/example/meterwright/meterwright/usage/Attributes"), (.object "java/lang/String")], some (.object "com/example/meterwright/meterwright/usage/UsageRecord")⟩ := by decide +kernel
theorem pd_7 : parseMethodDescriptor "(Ljava/time/Instant;Ljava/time/Instant;Ljava/lang/String;Ljava/lang/String;Ljava/lang/String;Ljava/lang/String;Ljava/math/BigDecimal;Lcom/example/meterwright/meterwright/pricing/MeterKind;ZLcom/example/meterwright/meterwright/usage/Attributes;Ljava/lang/String;)V" = some ⟨[(.object "java/time/Instant"), (.object "java/time/Instant"), (.object "java/lang/String"), (.object "java/lang/String"), (.object "java/lang/String"), (.object "java/lang/String"), (.object "java/math/BigDecimal"), (.object "com/example/meterwright/meterwright/pricing/MeterKind"), .boolean, (.object "com/example/meterwright/meterwright/usage/Attributes"), (.object "java/lang/String")], none⟩ := by decide +kernel
theorem pd_8 : parseMethodDescriptor "()Ljava/lang/String;" = some ⟨[], some (.object "java/lang/String")⟩ := by decide +kernel
theorem pd_9 : parseMethodDescriptor "(Ljava/lang/String;Ljava/lang/String;Ljava/lang/String;Ljava/lang/String;)V" = some ⟨[(.object "java/lang/String"), (.object "java/lang/String"), (.object "java/lang/String"), (.object "java/lang/String")], none⟩ := by decide +kernel
theorem pd_10 : parseMethodDescriptor "([CI[BII)I" = some ⟨[(.array .char), .int, (.array .byte), .int, .int], some .int⟩ := by decide +kernel
theorem pd_11 : parseMethodDescriptor "([CII)[B" = some ⟨[(.array .char), .int, .int], some (.array .byte)⟩ := by decide +kernel
theorem pd_12 : parseMethodDescriptor "([BI)B" = some ⟨[(.array .byte), .int], some .byte⟩ := by decide +kernel
theorem pd_13 : parseMethodDescriptor "([CIILjava/lang/Void;)V" = some ⟨[(.array .char), .int, .int, (.object "java/lang/Void")], none⟩ := by decide +kernel
theorem pd_14 : parseMethodDescriptor "([C)V" = some ⟨[(.array .char)], none⟩ := by decide +kernel
theorem pd_15 : parseMethodDescriptor "(I)Ljava/lang/String;" = some ⟨[.int], some (.object "java/lang/String")⟩ := by decide +kernel
theorem pd_16 : parseMethodDescriptor "(Ljava/time/Instant;Ljava/time/Instant;Ljava/lang/String;Ljava/lang/String;Ljava/lang/String;Ljava/lang/String;Ljava/math/BigDecimal;Lcom/example/meterwright/meterwright/pricing/MeterKind;Z)V" = some ⟨[(.object "java/time/Instant"), (.object "java/time/Instant"), (.object "java/lang/String"), (.object "java/lang/String"), (.object "java/lang/String"), (.object "java/lang/String"), (.object "java/math/BigDecimal"), (.object "com/example/meterwright/meterwright/pricing/MeterKind"), .boolean], none⟩ := by decide +kernel
theorem pd_17 : parseMethodDescriptor "(Lcom/example/meterwright/meterwright/usage/UsageRecord;)Lcom/example/meterwright/meterwright/snapshot/Holding;" = some ⟨[(.object "com/example/meterwright/meterwright/usage/UsageRecord")], some (.object "com/example/meterwright/meterwright/snapshot/Holding")⟩ := by decide +kernel
theorem pd_18 : parseMethodDescriptor "(Ljava/lang/Object;)Z" = some ⟨[(.object "java/lang/Object")], some .boolean⟩ := by decide +kernel
theorem pn_0 : plainName "java/lang/Long" = true := by first | (simp [plainName, overriddenIn]; done) | decide +kernel
theorem pn_1 : plainName "java/time/Instant" = true := by first | (simp [plainName, overriddenIn]; done) | decide +kernel
theorem pn_2 : plainName "java/lang/String" = true := by first | (simp [plainName, overriddenIn]; done) | decide +kernel
theorem pn_3 : plainName "com/example/meterwright/meterwright/usage/UsageRecord" = true := by first | (simp [plainName, overriddenIn]; done) | decide +kernel
theorem pn_4 : plainName "java/util/Objects" = true := by first | (simp [plainName, overriddenIn]; done) | decide +kernel
theorem pn_5 : plainName "com/example/meterwright/meterwright/snapshot/Holding" = true := by first | (simp [plainName, overriddenIn]; done) | decide +kernel
theorem pn_6 : plainName "java/lang/StringUTF16" = true := by first | (simp [plainName, overriddenIn]; done) | decide +kernel
theorem pn_7 : plainName "com/example/meterwright/meterwright/snapshot/HoldingOfPinLaw" = true := by first | (simp [plainName, overriddenIn]; done) | decide +kernel
set_option maxRecDepth 65536 in
set_option maxHeartbeats 40000000 in
theorem m_lc {l : Launch} {Z : State} {a0 : Array Value} {n0 : Nat} (hw : ∀ d ∈ tables_1, d.before a0 Z = true) {h0 : Heap}   :
    Does l Z n0 ⟨"java/lang/Long", "compare", "(JJ)I"⟩ jdk_35_method_42_code 4 (some .int) [] { frames := 0, cells := 0, slots := 0, locals := 0 } #[(.long (0 : Int64)), (.long (-31557014167219200 : Int64))] h0 (fun v h => v = some (.int (1 : Int32)) ∧ h0 = h) := by
  refine Does.start (plainFor_of_name pn_0) ?_
  intro p e s m below meth c T X
  replace X : Sd Z n0 0 jdk_35_method_42_code 4 "java/lang/Long" "compare" (some .int) h0 p l e { frames := 0, cells := 0, slots := 0, locals := 0 } s m #[(.long (0 : Int64)), (.long (-31557014167219200 : Int64))] below meth c T [] 0 0 := X
  refine Wp.cast (g' := mkF m 0 #[.val (.long (0 : Int64)), .second, .val (.long (-31557014167219200 : Int64)), .second] []) (by first | (simp [entryFrame, mkF, argsToLocals, Value.category, maxLocals]; done) | rfl) ?_
  refine w_lloadN X djdk_35_42_0 rfl ?_
  refine w_lloadN X djdk_35_42_1 rfl ?_
  refine w_lge X djdk_35_42_2 djdk_35_42_3 (fun _ => ?_) (fun hc => absurd hc (by decide))
  refine w_lloadN X djdk_35_42_10 rfl ?_
  refine w_lloadN X djdk_35_42_11 rfl ?_
  refine w_lne X djdk_35_42_12 djdk_35_42_13 (fun _ => ?_) (fun hc => absurd hc (by decide))
  refine w_iconst X (1 : Int32) djdk_35_42_20 rfl ?_
  exact w_retI X djdk_35_42_21 ⟨rfl, rfl⟩ (by decide) (by decide)
set_option maxRecDepth 65536 in
set_option maxHeartbeats 40000000 in
theorem m_ct {l : Launch} {Z : State} {a0 : Array Value} {n0 : Nat} (hw : ∀ d ∈ tables_1, d.before a0 Z = true) {h0 : Heap} {zc : Int32} {fm : Value} {iM iE bz an : Addr} (S_zc : Sta Z Z.heap "java/lang/String" "COMPACT_STRINGS" "Z" (.int zc)) (hzc : ¬ zc = 0) (S_fm : Sta Z Z.heap "jdk/internal/util/Preconditions" "SIOOBE_FORMATTER" "Ljava/util/function/BiFunction;" fm) (hfm : fm.isRef = true) (S_iM : Sta Z Z.heap "java/time/Instant" "MIN" "Ljava/time/Instant;" (.ref iM)) (E_iM : Exa Z Z.heap iM "java/time/Instant") (S_iE : Sta Z Z.heap "java/time/Instant" "EPOCH" "Ljava/time/Instant;" (.ref iE)) (E_iE : Exa Z Z.heap iE "java/time/Instant") (S_bz : Sta Z Z.heap "java/math/BigDecimal" "ZERO" "Ljava/math/BigDecimal;" (.ref bz)) (E_bz : Exa Z Z.heap bz "java/math/BigDecimal") (S_an : Sta Z Z.heap "com/example/meterwright/meterwright/usage/Attributes" "NONE" "Lcom/example/meterwright/meterwright/usage/Attributes;" (.ref an)) (E_an : Exa Z Z.heap an "com/example/meterwright/meterwright/usage/Attributes") (T_iM : Fld Z Z.heap iM "java/time/Instant" "seconds" "J" (.long (-31557014167219200 : Int64))) (T_iE : Fld Z Z.heap iE "java/time/Instant" "seconds" "J" (.long (0 : Int64))) :
    Does l Z n0 ⟨"java/time/Instant", "compareTo", "(Ljava/time/Instant;)I"⟩ jdk_2320_method_41_code 3 (some .int) [] { frames := 1, cells := 0, slots := 0, locals := 15 } #[(.ref iE), (.ref iM)] h0 (fun v h => v = some (.int (1 : Int32)) ∧ h0 = h) := by
  refine Does.start (plainFor_of_name pn_1) ?_
  intro p e s m below meth c T X
  replace X : Sd Z n0 0 jdk_2320_method_41_code 3 "java/time/Instant" "compareTo" (some .int) h0 p l e { frames := 1, cells := 0, slots := 0, locals := 15 } s m #[(.ref iE), (.ref iM)] below meth c T [] 0 0 := X
  refine Wp.cast (g' := mkF m 0 #[.val (.ref iE), .val (.ref iM), .unset] []) (by first | (simp [entryFrame, mkF, argsToLocals, Value.category, maxLocals]; done) | rfl) ?_
  refine w_aloadN X djdk_2320_41_0 rfl (rfl) ?_
  refine w_getF X djdk_2320_41_1 (host := "") (Or.inl (wd_67 hw)) Via.refl (T_iE.ext X.old.2) (fun T X => ?_)
  refine w_aloadN X djdk_2320_41_4 rfl (rfl) ?_
  refine w_getF X djdk_2320_41_5 (host := "") (Or.inl (wd_67 hw)) Via.refl (T_iM.ext X.old.2) (fun T X => ?_)
  refine w_callS X djdk_2320_41_8 (wd_69 hw) (wd_70 hw) (wd_71 hw) (wd_72 hw) (by decide) (argsL := [(.long (0 : Int64)), (.long (-31557014167219200 : Int64))]) (S := []) (m_lc hw) pd_0 rfl rfl rfl (by decide) (Nat.le_of_ble_eq_true rfl) (by decide) (by decide) (fun T h1 v1 L1 X q1 => ?_)
  obtain ⟨rfl, rfl⟩ := q1
  show Wp p e below _ (T.setTop (mkF m 11 #[.val (.ref iE), .val (.ref iM), .unset] [(.int (1 : Int32))]))
  refine w_istoreN X #[.val (.ref iE), .val (.ref iM), .val (.int (1 : Int32))] djdk_2320_41_11 rfl ?_
  refine w_iloadN X djdk_2320_41_12 rfl ?_
  refine w_ifeq X djdk_2320_41_13 (fun hc => absurd hc (by decide)) (fun _ => ?_)
  refine w_iloadN X djdk_2320_41_16 rfl ?_
  exact w_retI X djdk_2320_41_17 ⟨rfl, rfl⟩ (by decide) (by decide)
set_option maxRecDepth 65536 in
set_option maxHeartbeats 40000000 in
theorem m_ia {l : Launch} {Z : State} {a0 : Array Value} {n0 : Nat} (hw : ∀ d ∈ tables_1, d.before a0 Z = true) {h0 : Heap} {zc : Int32} {fm : Value} {iM iE bz an : Addr} (S_zc : Sta Z Z.heap "java/lang/String" "COMPACT_STRINGS" "Z" (.int zc)) (hzc : ¬ zc = 0) (S_fm : Sta Z Z.heap "jdk/internal/util/Preconditions" "SIOOBE_FORMATTER" "Ljava/util/function/BiFunction;" fm) (hfm : fm.isRef = true) (S_iM : Sta Z Z.heap "java/time/Instant" "MIN" "Ljava/time/Instant;" (.ref iM)) (E_iM : Exa Z Z.heap iM "java/time/Instant") (S_iE : Sta Z Z.heap "java/time/Instant" "EPOCH" "Ljava/time/Instant;" (.ref iE)) (E_iE : Exa Z Z.heap iE "java/time/Instant") (S_bz : Sta Z Z.heap "java/math/BigDecimal" "ZERO" "Ljava/math/BigDecimal;" (.ref bz)) (E_bz : Exa Z Z.heap bz "java/math/BigDecimal") (S_an : Sta Z Z.heap "com/example/meterwright/meterwright/usage/Attributes" "NONE" "Lcom/example/meterwright/meterwright/usage/Attributes;" (.ref an)) (E_an : Exa Z Z.heap an "com/example/meterwright/meterwright/usage/Attributes") (T_iM : Fld Z Z.heap iM "java/time/Instant" "seconds" "J" (.long (-31557014167219200 : Int64))) (T_iE : Fld Z Z.heap iE "java/time/Instant" "seconds" "J" (.long (0 : Int64))) :
    Does l Z n0 ⟨"java/time/Instant", "isAfter", "(Ljava/time/Instant;)Z"⟩ jdk_2320_method_42_code 2 (some .boolean) [] { frames := 2, cells := 0, slots := 0, locals := 29 } #[(.ref iE), (.ref iM)] h0 (fun v h => v = some (.int (1 : Int32)) ∧ h0 = h) := by
  refine Does.start (plainFor_of_name pn_1) ?_
  intro p e s m below meth c T X
  replace X : Sd Z n0 0 jdk_2320_method_42_code 2 "java/time/Instant" "isAfter" (some .boolean) h0 p l e { frames := 2, cells := 0, slots := 0, locals := 29 } s m #[(.ref iE), (.ref iM)] below meth c T [] 0 0 := X
  refine Wp.cast (g' := mkF m 0 #[.val (.ref iE), .val (.ref iM)] []) (by first | (simp [entryFrame, mkF, argsToLocals, Value.category, maxLocals]; done) | rfl) ?_
  refine w_aloadN X djdk_2320_42_0 rfl (rfl) ?_
  refine w_aloadN X djdk_2320_42_1 rfl (rfl) ?_
  refine w_callV X djdk_2320_42_2 (wd_62 hw) (wd_63 hw) (notFace_of_selects (args := #[]) (mvT X.hZ (wd_65 hw))) (wd_65 hw) (wd_64 hw) (wd_38 hw) (wd_66 hw) (by decide) (E_iE.ext X.old.2) (argsL := [(.ref iM)]) (S := []) (m_ct hw S_zc hzc S_fm hfm S_iM E_iM S_iE E_iE S_bz E_bz S_an E_an T_iM T_iE) pd_1 rfl rfl rfl (by decide) (Nat.le_of_ble_eq_true rfl) (by decide) (by decide) (fun T h1 v1 L1 X q1 => ?_)
  obtain ⟨rfl, rfl⟩ := q1
  show Wp p e below _ (T.setTop (mkF m 5 #[.val (.ref iE), .val (.ref iM)] [(.int (1 : Int32))]))
  refine w_ifle X djdk_2320_42_5 (fun hc => absurd (by decide) hc) (fun _ => ?_)
  refine w_iconst X (1 : Int32) djdk_2320_42_8 rfl ?_
  refine w_goto X djdk_2320_42_9 ?_
  exact w_ret_boolean X (1 : Int32) (by decide) djdk_2320_42_13 ⟨rfl, rfl⟩ (by decide) (by decide)
set_option maxRecDepth 65536 in
set_option maxHeartbeats 40000000 in
theorem m_emp {l : Launch} {Z : State} {a0 : Array Value} {n0 : Nat} (hw : ∀ d ∈ tables_1, d.before a0 Z = true) {h0 : Heap} {a t : Addr} {bs : List Value} (Va : Fld Z h0 a "java/lang/String" "value" "[B" (.ref t)) (At : Ary Z h0 t .byte bs) (hn : ¬ bs.length.toInt32 = 0) :
    Does l Z n0 ⟨"java/lang/String", "isEmpty", "()Z"⟩ jdk_42_method_55_code 1 (some .boolean) [] { frames := 0, cells := 0, slots := 0, locals := 0 } #[(.ref a)] h0 (fun v h => v = some (.int (0 : Int32)) ∧ h0 = h) := by
  refine Does.start (plainFor_of_name pn_2) ?_
  intro p e s m below meth c T X
  replace X : Sd Z n0 0 jdk_42_method_55_code 1 "java/lang/String" "isEmpty" (some .boolean) h0 p l e { frames := 0, cells := 0, slots := 0, locals := 0 } s m #[(.ref a)] below meth c T [] 0 0 := X
  refine Wp.cast (g' := mkF m 0 #[.val (.ref a)] []) (by first | (simp [entryFrame, mkF, argsToLocals, Value.category, maxLocals]; done) | rfl) ?_
  refine w_aloadN X djdk_42_55_0 rfl (rfl) ?_
  refine w_getF X djdk_42_55_1 (host := "") (Or.inl (wd_32 hw)) Via.refl Va (fun T X => ?_)
  refine w_arrlen X (bs.length.toInt32) djdk_42_55_4 At rfl ?_
  refine w_ifne X djdk_42_55_5 (fun _ => ?_) (fun hc => absurd hc hn)
  refine w_iconst X (0 : Int32) djdk_42_55_12 rfl ?_
  exact w_ret_boolean X (0 : Int32) (by decide) djdk_42_55_13 ⟨rfl, rfl⟩ (by decide) (by decide)
set_option maxRecDepth 65536 in
set_option maxHeartbeats 40000000 in
theorem m_cne {l : Launch} {Z : State} {a0 : Array Value} {n0 : Nat} (hw : ∀ d ∈ tables_1, d.before a0 Z = true) {h0 : Heap} {a b t : Addr} {bs : List Value} (Ea : Exa Z h0 a "java/lang/String") (Va : Fld Z h0 a "java/lang/String" "value" "[B" (.ref t)) (At : Ary Z h0 t .byte bs) (hn : ¬ bs.length.toInt32 = 0) :
    Does l Z n0 ⟨"com/example/meterwright/meterwright/usage/UsageRecord", "checkNotEmpty", "(Ljava/lang/String;Ljava/lang/String;)V"⟩ prog_68_method_6_code 2 none [] { frames := 1, cells := 0, slots := 0, locals := 12 } #[(.ref a), (.ref b)] h0 (fun v h => v = none ∧ h0 = h) := by
  refine Does.start (plainFor_of_name pn_3) ?_
  intro p e s m below meth c T X
  replace X : Sd Z n0 0 prog_68_method_6_code 2 "com/example/meterwright/meterwright/usage/UsageRecord" "checkNotEmpty" none h0 p l e { frames := 1, cells := 0, slots := 0, locals := 12 } s m #[(.ref a), (.ref b)] below meth c T [] 0 0 := X
  refine Wp.cast (g' := mkF m 0 #[.val (.ref a), .val (.ref b)] []) (by first | (simp [entryFrame, mkF, argsToLocals, Value.category, maxLocals]; done) | rfl) ?_
  refine w_aloadN X dprog_68_6_0 rfl (rfl) ?_
  refine w_callV X dprog_68_6_1 (wd_79 hw) (wd_80 hw) (notFace_of_selects (args := #[]) (mvT X.hZ (wd_82 hw))) (wd_82 hw) (wd_81 hw) (wd_6 hw) (wd_83 hw) (by decide) Ea (argsL := []) (S := []) (m_emp hw Va At hn) pd_2 rfl rfl rfl (by decide) (Nat.le_of_ble_eq_true rfl) (by decide) (by decide) (fun T h1 v1 L1 X q1 => ?_)
  obtain ⟨rfl, rfl⟩ := q1
  show Wp p e below _ (T.setTop (mkF m 4 #[.val (.ref a), .val (.ref b)] [(.int (0 : Int32))]))
  refine w_ifeq X dprog_68_6_4 (fun _ => ?_) (fun hc => absurd rfl hc)
  exact w_retV X dprog_68_6_21 ⟨rfl, rfl⟩ (by decide) (by decide)
set_option maxRecDepth 65536 in
set_option maxHeartbeats 40000000 in
theorem m_rnn {l : Launch} {Z : State} {a0 : Array Value} {n0 : Nat} (hw : ∀ d ∈ tables_1, d.before a0 Z = true) {h0 : Heap} {a b : Addr}  :
    Does l Z n0 ⟨"java/util/Objects", "requireNonNull", "(Ljava/lang/Object;Ljava/lang/String;)Ljava/lang/Object;"⟩ jdk_31_method_11_code 2 (some (.object "java/lang/Object")) [] { frames := 0, cells := 0, slots := 0, locals := 0 } #[(.ref a), (.ref b)] h0 (fun v h => v = some (.ref a) ∧ h0 = h) := by
  refine Does.start (plainFor_of_name pn_4) ?_
  intro p e s m below meth c T X
  replace X : Sd Z n0 0 jdk_31_method_11_code 2 "java/util/Objects" "requireNonNull" (some (.object "java/lang/Object")) h0 p l e { frames := 0, cells := 0, slots := 0, locals := 0 } s m #[(.ref a), (.ref b)] below meth c T [] 0 0 := X
  refine Wp.cast (g' := mkF m 0 #[.val (.ref a), .val (.ref b)] []) (by first | (simp [entryFrame, mkF, argsToLocals, Value.category, maxLocals]; done) | rfl) ?_
  refine w_aloadN X djdk_31_11_0 rfl (rfl) ?_
  refine w_ifnonnullT X djdk_31_11_1 ?_
  refine w_aloadN X djdk_31_11_13 rfl (rfl) ?_
  exact w_retR X rfl (rfl) rfl djdk_31_11_14 ⟨rfl, rfl⟩ (by decide) (by decide)
set_option maxRecDepth 65536 in
set_option maxHeartbeats 40000000 in
theorem m_set {l : Launch} {Z : State} {a0 : Array Value} {n0 : Nat} (hw : ∀ d ∈ tables_1, d.before a0 Z = true) {h0 : Heap} {zc : Int32} {fm : Value} {iM iE bz an : Addr} {a s1 s2 s3 s4 ts1 ts2 ts3 ts4 : Addr} {bs1 bs2 bs3 bs4 : List Value} {vv : Int32} {u_start u_end u_tenant u_project u_resource u_meter u_quantity u_kind u_valid u_attributes u_currency : Value} (S_zc : Sta Z Z.heap "java/lang/String" "COMPACT_STRINGS" "Z" (.int zc)) (hzc : ¬ zc = 0) (S_fm : Sta Z Z.heap "jdk/internal/util/Preconditions" "SIOOBE_FORMATTER" "Ljava/util/function/BiFunction;" fm) (hfm : fm.isRef = true) (S_iM : Sta Z Z.heap "java/time/Instant" "MIN" "Ljava/time/Instant;" (.ref iM)) (E_iM : Exa Z Z.heap iM "java/time/Instant") (S_iE : Sta Z Z.heap "java/time/Instant" "EPOCH" "Ljava/time/Instant;" (.ref iE)) (E_iE : Exa Z Z.heap iE "java/time/Instant") (S_bz : Sta Z Z.heap "java/math/BigDecimal" "ZERO" "Ljava/math/BigDecimal;" (.ref bz)) (E_bz : Exa Z Z.heap bz "java/math/BigDecimal") (S_an : Sta Z Z.heap "com/example/meterwright/meterwright/usage/Attributes" "NONE" "Lcom/example/meterwright/meterwright/usage/Attributes;" (.ref an)) (E_an : Exa Z Z.heap an "com/example/meterwright/meterwright/usage/Attributes") (T_iM : Fld Z Z.heap iM "java/time/Instant" "seconds" "J" (.long (-31557014167219200 : Int64))) (T_iE : Fld Z Z.heap iE "java/time/Instant" "seconds" "J" (.long (0 : Int64))) (E_s1 : Exa Z h0 s1 "java/lang/String") (V_s1 : Fld Z h0 s1 "java/lang/String" "value" "[B" (.ref ts1)) (A_s1 : Ary Z h0 ts1 .byte bs1) (hn_s1 : ¬ bs1.length.toInt32 = 0) (E_s2 : Exa Z h0 s2 "java/lang/String") (V_s2 : Fld Z h0 s2 "java/lang/String" "value" "[B" (.ref ts2)) (A_s2 : Ary Z h0 ts2 .byte bs2) (hn_s2 : ¬ bs2.length.toInt32 = 0) (E_s3 : Exa Z h0 s3 "java/lang/String") (V_s3 : Fld Z h0 s3 "java/lang/String" "value" "[B" (.ref ts3)) (A_s3 : Ary Z h0 ts3 .byte bs3) (hn_s3 : ¬ bs3.length.toInt32 = 0) (E_s4 : Exa Z h0 s4 "java/lang/String") (V_s4 : Fld Z h0 s4 "java/lang/String" "value" "[B" (.ref ts4)) (A_s4 : Ary Z h0 ts4 .byte bs4) (hn_s4 : ¬ bs4.length.toInt32 = 0) (ga : n0 ≤ a) (Ea : Exa Z h0 a "com/example/meterwright/meterwright/usage/UsageRecord") (F_start : Fld Z h0 a "com/example/meterwright/meterwright/usage/UsageRecord" "start" "Ljava/time/Instant;" u_start) (F_end : Fld Z h0 a "com/example/meterwright/meterwright/usage/UsageRecord" "end" "Ljava/time/Instant;" u_end) (F_tenant : Fld Z h0 a "com/example/meterwright/meterwright/usage/UsageRecord" "tenant" "Ljava/lang/String;" u_tenant) (F_project : Fld Z h0 a "com/example/meterwright/meterwright/usage/UsageRecord" "project" "Ljava/lang/String;" u_project) (F_resource : Fld Z h0 a "com/example/meterwright/meterwright/usage/UsageRecord" "resource" "Ljava/lang/String;" u_resource) (F_meter : Fld Z h0 a "com/example/meterwright/meterwright/usage/UsageRecord" "meter" "Ljava/lang/String;" u_meter) (F_quantity : Fld Z h0 a "com/example/meterwright/meterwright/usage/UsageRecord" "quantity" "Ljava/math/BigDecimal;" u_quantity) (F_kind : Fld Z h0 a "com/example/meterwright/meterwright/usage/UsageRecord" "kind" "Lcom/example/meterwright/meterwright/pricing/MeterKind;" u_kind) (F_valid : Fld Z h0 a "com/example/meterwright/meterwright/usage/UsageRecord" "valid" "Z" u_valid) (F_attributes : Fld Z h0 a "com/example/meterwright/meterwright/usage/UsageRecord" "attributes" "Lcom/example/meterwright/meterwright/usage/Attributes;" u_attributes) (F_currency : Fld Z h0 a "com/example/meterwright/meterwright/usage/UsageRecord" "currency" "Ljava/lang/String;" u_currency) (hvv : nar .boolean vv = vv) :
    DoesW l Z n0 ⟨"com/example/meterwright/meterwright/usage/UsageRecord", "set", "(Ljava/time/Instant;Ljava/time/Instant;Ljava/lang/String;Ljava/lang/String;Ljava/lang/String;Ljava/lang/String;Ljava/math/BigDecimal;Lcom/example/meterwright/meterwright/pricing/MeterKind;ZLcom/example/meterwright/meterwright/usage/Attributes;Ljava/lang/String;)Lcom/example/meterwright/meterwright/usage/UsageRecord;"⟩ prog_68_method_4_code 12 (some (.object "com/example/meterwright/meterwright/usage/UsageRecord")) [] { frames := 3, cells := 12, slots := 200, locals := 42 } #[(.ref a), (.ref iM), (.ref iE), (.ref s1), (.ref s2), (.ref s3), (.ref s4), (.ref bz), .null, (.int vv), (.ref an), .null] h0 (fun v h => v = some (.ref a) ∧ Exa Z h a "com/example/meterwright/meterwright/usage/UsageRecord" ∧ Fld Z h a "com/example/meterwright/meterwright/usage/UsageRecord" "start" "Ljava/time/Instant;" (.ref iM) ∧ Fld Z h a "com/example/meterwright/meterwright/usage/UsageRecord" "end" "Ljava/time/Instant;" (.ref iE) ∧ Fld Z h a "com/example/meterwright/meterwright/usage/UsageRecord" "tenant" "Ljava/lang/String;" (.ref s1) ∧ Fld Z h a "com/example/meterwright/meterwright/usage/UsageRecord" "project" "Ljava/lang/String;" (.ref s2) ∧ Fld Z h a "com/example/meterwright/meterwright/usage/UsageRecord" "resource" "Ljava/lang/String;" (.ref s3) ∧ Fld Z h a "com/example/meterwright/meterwright/usage/UsageRecord" "meter" "Ljava/lang/String;" (.ref s4) ∧ Fld Z h a "com/example/meterwright/meterwright/usage/UsageRecord" "quantity" "Ljava/math/BigDecimal;" (.ref bz) ∧ Fld Z h a "com/example/meterwright/meterwright/usage/UsageRecord" "kind" "Lcom/example/meterwright/meterwright/pricing/MeterKind;" .null ∧ Fld Z h a "com/example/meterwright/meterwright/usage/UsageRecord" "valid" "Z" (.int vv) ∧ Fld Z h a "com/example/meterwright/meterwright/usage/UsageRecord" "attributes" "Lcom/example/meterwright/meterwright/usage/Attributes;" (.ref an) ∧ Fld Z h a "com/example/meterwright/meterwright/usage/UsageRecord" "currency" "Ljava/lang/String;" .null ∧ Keep h0 h [a]) := by
  refine DoesW.start (plainFor_of_name pn_3) ?_
  intro p e s m below meth c T X Y hs0
  replace X : Sd Z n0 0 prog_68_method_4_code 12 "com/example/meterwright/meterwright/usage/UsageRecord" "set" (some (.object "com/example/meterwright/meterwright/usage/UsageRecord")) h0 p l e { frames := 3, cells := 12, slots := 200, locals := 42 } (s.setVm s.vm) m #[(.ref a), (.ref iM), (.ref iE), (.ref s1), (.ref s2), (.ref s3), (.ref s4), (.ref bz), .null, (.int vv), (.ref an), .null] below meth c T [] 0 0 := X
  refine Wp.cast (g' := mkF m 0 #[.val (.ref a), .val (.ref iM), .val (.ref iE), .val (.ref s1), .val (.ref s2), .val (.ref s3), .val (.ref s4), .val (.ref bz), .val .null, .val (.int vv), .val (.ref an), .val .null] []) (by first | (simp [entryFrame, mkF, argsToLocals, Value.category, maxLocals]; done) | rfl) ?_
  refine w_aloadN X dprog_68_4_0 rfl (rfl) ?_
  refine w_aloadN X dprog_68_4_1 rfl (rfl) ?_
  refine w_callV X dprog_68_4_2 (wd_57 hw) (wd_58 hw) (notFace_of_selects (args := #[]) (mvT X.hZ (wd_60 hw))) (wd_60 hw) (wd_59 hw) (wd_38 hw) (wd_61 hw) (by decide) (E_iE.ext X.old.2) (argsL := [(.ref iM)]) (S := []) (m_ia hw S_zc hzc S_fm hfm S_iM E_iM S_iE E_iE S_bz E_bz S_an E_an T_iM T_iE) pd_3 rfl rfl rfl (by decide) (Nat.le_of_ble_eq_true rfl) (by decide) (by decide) (fun T h1 v1 L1 X q1 => ?_)
  obtain ⟨rfl, rfl⟩ := q1
  show Wp p e below _ (T.setTop (mkF m 5 #[.val (.ref a), .val (.ref iM), .val (.ref iE), .val (.ref s1), .val (.ref s2), .val (.ref s3), .val (.ref s4), .val (.ref bz), .val .null, .val (.int vv), .val (.ref an), .val .null] [(.int (1 : Int32))]))
  refine w_ifne X dprog_68_4_5 (fun _ => ?_) (fun hc => absurd hc (by decide))
  refine w_aloadN X dprog_68_4_29 rfl (rfl) ?_
  refine v_ldcS X Y dprog_68_4_30 (wd_73 hw) (own_wS hw) 24 (by decide) (by decide) (by decide) (by decide) (fun T h2 u kk a2 X Y E2 => ?_)
  have K1 : Keep h0 h2 [a] := (Keep.refl h0 [a]).ext E2
  have f2 := (V_s1.ext E2)
  have f3 := (A_s1.ext E2)
  have f4 := (E_s1.ext E2)
  refine w_callS X dprog_68_4_32 (wd_76 hw) (wd_77 hw) (wd_36 hw) (wd_78 hw) (by decide) (argsL := [(.ref s1), (.ref a2)]) (S := []) (m_cne hw (b := a2) f4 f2 f3 hn_s1) pd_4 rfl rfl rfl (by decide) (Nat.le_of_ble_eq_true rfl) (by decide) (by decide) (fun T h3 v3 L3 X q3 => ?_)
  obtain ⟨rfl, rfl⟩ := q3
  show Wp p e below _ (T.setTop (mkF m 35 #[.val (.ref a), .val (.ref iM), .val (.ref iE), .val (.ref s1), .val (.ref s2), .val (.ref s3), .val (.ref s4), .val (.ref bz), .val .null, .val (.int vv), .val (.ref an), .val .null] []))
  refine w_aload X dprog_68_4_35 rfl (rfl) ?_
  refine v_ldcS X Y dprog_68_4_37 (wd_84 hw) (own_wS hw) 28 (by decide) (by decide) (by decide) (by decide) (fun T h4 u kk a4 X Y E4 => ?_)
  have K5 : Keep h0 h4 [a] := K1.ext E4
  have f6 := ((V_s2.ext E2).ext E4)
  have f7 := ((A_s2.ext E2).ext E4)
  have f8 := ((E_s2.ext E2).ext E4)
  refine w_callS X dprog_68_4_39 (wd_76 hw) (wd_77 hw) (wd_36 hw) (wd_78 hw) (by decide) (argsL := [(.ref s2), (.ref a4)]) (S := []) (m_cne hw (b := a4) f8 f6 f7 hn_s2) pd_4 rfl rfl rfl (by decide) (Nat.le_of_ble_eq_true rfl) (by decide) (by decide) (fun T h5 v5 L5 X q5 => ?_)
  obtain ⟨rfl, rfl⟩ := q5
  show Wp p e below _ (T.setTop (mkF m 42 #[.val (.ref a), .val (.ref iM), .val (.ref iE), .val (.ref s1), .val (.ref s2), .val (.ref s3), .val (.ref s4), .val (.ref bz), .val .null, .val (.int vv), .val (.ref an), .val .null] []))
  refine w_aload X dprog_68_4_42 rfl (rfl) ?_
  refine v_ldcS X Y dprog_68_4_44 (wd_85 hw) (own_wS hw) 32 (by decide) (by decide) (by decide) (by decide) (fun T h6 u kk a6 X Y E6 => ?_)
  have K9 : Keep h0 h6 [a] := K5.ext E6
  have f10 := (((V_s3.ext E2).ext E4).ext E6)
  have f11 := (((A_s3.ext E2).ext E4).ext E6)
  have f12 := (((E_s3.ext E2).ext E4).ext E6)
  refine w_callS X dprog_68_4_46 (wd_76 hw) (wd_77 hw) (wd_36 hw) (wd_78 hw) (by decide) (argsL := [(.ref s3), (.ref a6)]) (S := []) (m_cne hw (b := a6) f12 f10 f11 hn_s3) pd_4 rfl rfl rfl (by decide) (Nat.le_of_ble_eq_true rfl) (by decide) (by decide) (fun T h7 v7 L7 X q7 => ?_)
  obtain ⟨rfl, rfl⟩ := q7
  show Wp p e below _ (T.setTop (mkF m 49 #[.val (.ref a), .val (.ref iM), .val (.ref iE), .val (.ref s1), .val (.ref s2), .val (.ref s3), .val (.ref s4), .val (.ref bz), .val .null, .val (.int vv), .val (.ref an), .val .null] []))
  refine w_aload X dprog_68_4_49 rfl (rfl) ?_
  refine v_ldcS X Y dprog_68_4_51 (wd_86 hw) (own_wS hw) 20 (by decide) (by decide) (by decide) (by decide) (fun T h8 u kk a8 X Y E8 => ?_)
  have K13 : Keep h0 h8 [a] := K9.ext E8
  have f14 := ((((V_s4.ext E2).ext E4).ext E6).ext E8)
  have f15 := ((((A_s4.ext E2).ext E4).ext E6).ext E8)
  have f16 := ((((E_s4.ext E2).ext E4).ext E6).ext E8)
  refine w_callS X dprog_68_4_53 (wd_76 hw) (wd_77 hw) (wd_36 hw) (wd_78 hw) (by decide) (argsL := [(.ref s4), (.ref a8)]) (S := []) (m_cne hw (b := a8) f16 f14 f15 hn_s4) pd_4 rfl rfl rfl (by decide) (Nat.le_of_ble_eq_true rfl) (by decide) (by decide) (fun T h9 v9 L9 X q9 => ?_)
  obtain ⟨rfl, rfl⟩ := q9
  show Wp p e below _ (T.setTop (mkF m 56 #[.val (.ref a), .val (.ref iM), .val (.ref iE), .val (.ref s1), .val (.ref s2), .val (.ref s3), .val (.ref s4), .val (.ref bz), .val .null, .val (.int vv), .val (.ref an), .val .null] []))
  refine w_aload X dprog_68_4_56 rfl (rfl) ?_
  refine w_ifnullT X dprog_68_4_58 ?_
  refine w_aloadN X dprog_68_4_68 rfl (rfl) ?_
  refine w_aloadN X dprog_68_4_69 rfl (rfl) ?_
  have f17 := ((((Ea.ext E2).ext E4).ext E6).ext E8)
  have f18 := ((((F_start.ext E2).ext E4).ext E6).ext E8)
  refine w_putF X dprog_68_4_70 (host := "") (Or.inl (wd_87 hw)) Via.refl f18 f17 (Or.inl (wd_88 hw)) (wd_35 hw) (ty := (.object "java/time/Instant")) (by decide) rfl rfl ga (fun T h10 X W10 => ?_)
  have f19 := f18.same W10
  have K20 : Keep h0 h10 [a] := K13.wr W10 (Or.inl (List.mem_of_getElem? (i := 0) rfl))
  refine w_aloadN X dprog_68_4_73 rfl (rfl) ?_
  refine w_aloadN X dprog_68_4_74 rfl (rfl) ?_
  have f21 := (f17.wr W10)
  have f22 := (((((F_end.ext E2).ext E4).ext E6).ext E8).other W10 (Or.inr (slot_ne (Or.inl (wd_90 hw)) (Or.inl (wd_88 hw)) (by decide) (t := (.object "java/time/Instant")) (t' := (.object "java/time/Instant")) (by decide) (by decide))))
  refine w_putF X dprog_68_4_75 (host := "") (Or.inl (wd_89 hw)) Via.refl f22 f21 (Or.inl (wd_90 hw)) (wd_35 hw) (ty := (.object "java/time/Instant")) (by decide) rfl rfl ga (fun T h11 X W11 => ?_)
  have f23 := f22.same W11
  have K24 : Keep h0 h11 [a] := K20.wr W11 (Or.inl (List.mem_of_getElem? (i := 0) rfl))
  refine w_aloadN X dprog_68_4_78 rfl (rfl) ?_
  refine w_aloadN X dprog_68_4_79 rfl (rfl) ?_
  have f25 := (f21.wr W11)
  have f26 := ((((((F_tenant.ext E2).ext E4).ext E6).ext E8).other W10 (Or.inr (slot_ne (Or.inl (wd_92 hw)) (Or.inl (wd_88 hw)) (by decide) (t := (.object "java/lang/String")) (t' := (.object "java/time/Instant")) (by decide) (by decide)))).other W11 (Or.inr (slot_ne (Or.inl (wd_92 hw)) (Or.inl (wd_90 hw)) (by decide) (t := (.object "java/lang/String")) (t' := (.object "java/time/Instant")) (by decide) (by decide))))
  refine w_putF X dprog_68_4_80 (host := "") (Or.inl (wd_91 hw)) Via.refl f26 f25 (Or.inl (wd_92 hw)) (wd_35 hw) (ty := (.object "java/lang/String")) (by decide) rfl rfl ga (fun T h12 X W12 => ?_)
  have f27 := f26.same W12
  have K28 : Keep h0 h12 [a] := K24.wr W12 (Or.inl (List.mem_of_getElem? (i := 0) rfl))
  refine w_aloadN X dprog_68_4_83 rfl (rfl) ?_
  refine w_aload X dprog_68_4_84 rfl (rfl) ?_
  have f29 := (f25.wr W12)
  have f30 := (((((((F_project.ext E2).ext E4).ext E6).ext E8).other W10 (Or.inr (slot_ne (Or.inl (wd_94 hw)) (Or.inl (wd_88 hw)) (by decide) (t := (.object "java/lang/String")) (t' := (.object "java/time/Instant")) (by decide) (by decide)))).other W11 (Or.inr (slot_ne (Or.inl (wd_94 hw)) (Or.inl (wd_90 hw)) (by decide) (t := (.object "java/lang/String")) (t' := (.object "java/time/Instant")) (by decide) (by decide)))).other W12 (Or.inr (slot_ne (Or.inl (wd_94 hw)) (Or.inl (wd_92 hw)) (by decide) (t := (.object "java/lang/String")) (t' := (.object "java/lang/String")) (by decide) (by decide))))
  refine w_putF X dprog_68_4_86 (host := "") (Or.inl (wd_93 hw)) Via.refl f30 f29 (Or.inl (wd_94 hw)) (wd_35 hw) (ty := (.object "java/lang/String")) (by decide) rfl rfl ga (fun T h13 X W13 => ?_)
  have f31 := f30.same W13
  have K32 : Keep h0 h13 [a] := K28.wr W13 (Or.inl (List.mem_of_getElem? (i := 0) rfl))
  refine w_aloadN X dprog_68_4_89 rfl (rfl) ?_
  refine w_aload X dprog_68_4_90 rfl (rfl) ?_
  have f33 := (f29.wr W13)
  have f34 := ((((((((F_resource.ext E2).ext E4).ext E6).ext E8).other W10 (Or.inr (slot_ne (Or.inl (wd_96 hw)) (Or.inl (wd_88 hw)) (by decide) (t := (.object "java/lang/String")) (t' := (.object "java/time/Instant")) (by decide) (by decide)))).other W11 (Or.inr (slot_ne (Or.inl (wd_96 hw)) (Or.inl (wd_90 hw)) (by decide) (t := (.object "java/lang/String")) (t' := (.object "java/time/Instant")) (by decide) (by decide)))).other W12 (Or.inr (slot_ne (Or.inl (wd_96 hw)) (Or.inl (wd_92 hw)) (by decide) (t := (.object "java/lang/String")) (t' := (.object "java/lang/String")) (by decide) (by decide)))).other W13 (Or.inr (slot_ne (Or.inl (wd_96 hw)) (Or.inl (wd_94 hw)) (by decide) (t := (.object "java/lang/String")) (t' := (.object "java/lang/String")) (by decide) (by decide))))
  refine w_putF X dprog_68_4_92 (host := "") (Or.inl (wd_95 hw)) Via.refl f34 f33 (Or.inl (wd_96 hw)) (wd_35 hw) (ty := (.object "java/lang/String")) (by decide) rfl rfl ga (fun T h14 X W14 => ?_)
  have f35 := f34.same W14
  have K36 : Keep h0 h14 [a] := K32.wr W14 (Or.inl (List.mem_of_getElem? (i := 0) rfl))
  refine w_aloadN X dprog_68_4_95 rfl (rfl) ?_
  refine w_aload X dprog_68_4_96 rfl (rfl) ?_
  have f37 := (f33.wr W14)
  have f38 := (((((((((F_meter.ext E2).ext E4).ext E6).ext E8).other W10 (Or.inr (slot_ne (Or.inl (wd_98 hw)) (Or.inl (wd_88 hw)) (by decide) (t := (.object "java/lang/String")) (t' := (.object "java/time/Instant")) (by decide) (by decide)))).other W11 (Or.inr (slot_ne (Or.inl (wd_98 hw)) (Or.inl (wd_90 hw)) (by decide) (t := (.object "java/lang/String")) (t' := (.object "java/time/Instant")) (by decide) (by decide)))).other W12 (Or.inr (slot_ne (Or.inl (wd_98 hw)) (Or.inl (wd_92 hw)) (by decide) (t := (.object "java/lang/String")) (t' := (.object "java/lang/String")) (by decide) (by decide)))).other W13 (Or.inr (slot_ne (Or.inl (wd_98 hw)) (Or.inl (wd_94 hw)) (by decide) (t := (.object "java/lang/String")) (t' := (.object "java/lang/String")) (by decide) (by decide)))).other W14 (Or.inr (slot_ne (Or.inl (wd_98 hw)) (Or.inl (wd_96 hw)) (by decide) (t := (.object "java/lang/String")) (t' := (.object "java/lang/String")) (by decide) (by decide))))
  refine w_putF X dprog_68_4_98 (host := "") (Or.inl (wd_97 hw)) Via.refl f38 f37 (Or.inl (wd_98 hw)) (wd_35 hw) (ty := (.object "java/lang/String")) (by decide) rfl rfl ga (fun T h15 X W15 => ?_)
  have f39 := f38.same W15
  have K40 : Keep h0 h15 [a] := K36.wr W15 (Or.inl (List.mem_of_getElem? (i := 0) rfl))
  refine w_aloadN X dprog_68_4_101 rfl (rfl) ?_
  refine w_aload X dprog_68_4_102 rfl (rfl) ?_
  refine v_ldcS X Y dprog_68_4_104 (wd_99 hw) (own_wS hw) 32 (by decide) (by decide) (by decide) (by decide) (fun T h16 u kk a16 X Y E16 => ?_)
  have K41 : Keep h0 h16 [a] := K40.ext E16
  refine w_callS X dprog_68_4_106 (wd_100 hw) (wd_101 hw) (wd_102 hw) (wd_103 hw) (by decide) (argsL := [(.ref bz), (.ref a16)]) (S := [(.ref a)]) (m_rnn hw (a := bz) (b := a16)) pd_5 rfl rfl rfl (by decide) (Nat.le_of_ble_eq_true rfl) (by decide) (by decide) (fun T h17 v17 L17 X q17 => ?_)
  obtain ⟨rfl, rfl⟩ := q17
  show Wp p e below _ (T.setTop (mkF m 109 #[.val (.ref a), .val (.ref iM), .val (.ref iE), .val (.ref s1), .val (.ref s2), .val (.ref s3), .val (.ref s4), .val (.ref bz), .val .null, .val (.int vv), .val (.ref an), .val .null] [(.ref bz), (.ref a)]))
  refine w_cast X dprog_68_4_109 (wd_104 hw) (Ins.self (E_bz.ext X.old.2)) (fun T X => ?_)
  have f42 := ((f37.wr W15).ext E16)
  have f43 := (((((((((((F_quantity.ext E2).ext E4).ext E6).ext E8).other W10 (Or.inr (slot_ne (Or.inl (wd_107 hw)) (Or.inl (wd_88 hw)) (by decide) (t := (.object "java/math/BigDecimal")) (t' := (.object "java/time/Instant")) (by decide) (by decide)))).other W11 (Or.inr (slot_ne (Or.inl (wd_107 hw)) (Or.inl (wd_90 hw)) (by decide) (t := (.object "java/math/BigDecimal")) (t' := (.object "java/time/Instant")) (by decide) (by decide)))).other W12 (Or.inr (slot_ne (Or.inl (wd_107 hw)) (Or.inl (wd_92 hw)) (by decide) (t := (.object "java/math/BigDecimal")) (t' := (.object "java/lang/String")) (by decide) (by decide)))).other W13 (Or.inr (slot_ne (Or.inl (wd_107 hw)) (Or.inl (wd_94 hw)) (by decide) (t := (.object "java/math/BigDecimal")) (t' := (.object "java/lang/String")) (by decide) (by decide)))).other W14 (Or.inr (slot_ne (Or.inl (wd_107 hw)) (Or.inl (wd_96 hw)) (by decide) (t := (.object "java/math/BigDecimal")) (t' := (.object "java/lang/String")) (by decide) (by decide)))).other W15 (Or.inr (slot_ne (Or.inl (wd_107 hw)) (Or.inl (wd_98 hw)) (by decide) (t := (.object "java/math/BigDecimal")) (t' := (.object "java/lang/String")) (by decide) (by decide)))).ext E16)
  refine w_putF X dprog_68_4_112 (host := "") (Or.inl (wd_106 hw)) Via.refl f43 f42 (Or.inl (wd_107 hw)) (wd_35 hw) (ty := (.object "java/math/BigDecimal")) (by decide) rfl rfl ga (fun T h18 X W18 => ?_)
  have f44 := f43.same W18
  have K45 : Keep h0 h18 [a] := K41.wr W18 (Or.inl (List.mem_of_getElem? (i := 0) rfl))
  refine w_aloadN X dprog_68_4_115 rfl (rfl) ?_
  refine w_aload X dprog_68_4_116 rfl (rfl) ?_
  have f46 := (f42.wr W18)
  have f47 := ((((((((((((F_kind.ext E2).ext E4).ext E6).ext E8).other W10 (Or.inr (slot_ne (Or.inl (wd_109 hw)) (Or.inl (wd_88 hw)) (by decide) (t := (.object "com/example/meterwright/meterwright/pricing/MeterKind")) (t' := (.object "java/time/Instant")) (by decide) (by decide)))).other W11 (Or.inr (slot_ne (Or.inl (wd_109 hw)) (Or.inl (wd_90 hw)) (by decide) (t := (.object "com/example/meterwright/meterwright/pricing/MeterKind")) (t' := (.object "java/time/Instant")) (by decide) (by decide)))).other W12 (Or.inr (slot_ne (Or.inl (wd_109 hw)) (Or.inl (wd_92 hw)) (by decide) (t := (.object "com/example/meterwright/meterwright/pricing/MeterKind")) (t' := (.object "java/lang/String")) (by decide) (by decide)))).other W13 (Or.inr (slot_ne (Or.inl (wd_109 hw)) (Or.inl (wd_94 hw)) (by decide) (t := (.object "com/example/meterwright/meterwright/pricing/MeterKind")) (t' := (.object "java/lang/String")) (by decide) (by decide)))).other W14 (Or.inr (slot_ne (Or.inl (wd_109 hw)) (Or.inl (wd_96 hw)) (by decide) (t := (.object "com/example/meterwright/meterwright/pricing/MeterKind")) (t' := (.object "java/lang/String")) (by decide) (by decide)))).other W15 (Or.inr (slot_ne (Or.inl (wd_109 hw)) (Or.inl (wd_98 hw)) (by decide) (t := (.object "com/example/meterwright/meterwright/pricing/MeterKind")) (t' := (.object "java/lang/String")) (by decide) (by decide)))).ext E16).other W18 (Or.inr (slot_ne (Or.inl (wd_109 hw)) (Or.inl (wd_107 hw)) (by decide) (t := (.object "com/example/meterwright/meterwright/pricing/MeterKind")) (t' := (.object "java/math/BigDecimal")) (by decide) (by decide))))
  refine w_putF X dprog_68_4_118 (host := "") (Or.inl (wd_108 hw)) Via.refl f47 f46 (Or.inl (wd_109 hw)) (wd_35 hw) (ty := (.object "com/example/meterwright/meterwright/pricing/MeterKind")) (by decide) rfl rfl ga (fun T h19 X W19 => ?_)
  have f48 := f47.same W19
  have K49 : Keep h0 h19 [a] := K45.wr W19 (Or.inl (List.mem_of_getElem? (i := 0) rfl))
  refine w_aloadN X dprog_68_4_121 rfl (rfl) ?_
  refine w_iload X dprog_68_4_122 rfl ?_
  have f50 := (f46.wr W19)
  have f51 := (((((((((((((F_valid.ext E2).ext E4).ext E6).ext E8).other W10 (Or.inr (slot_ne (Or.inl (wd_111 hw)) (Or.inl (wd_88 hw)) (by decide) (t := .boolean) (t' := (.object "java/time/Instant")) (by decide) (by decide)))).other W11 (Or.inr (slot_ne (Or.inl (wd_111 hw)) (Or.inl (wd_90 hw)) (by decide) (t := .boolean) (t' := (.object "java/time/Instant")) (by decide) (by decide)))).other W12 (Or.inr (slot_ne (Or.inl (wd_111 hw)) (Or.inl (wd_92 hw)) (by decide) (t := .boolean) (t' := (.object "java/lang/String")) (by decide) (by decide)))).other W13 (Or.inr (slot_ne (Or.inl (wd_111 hw)) (Or.inl (wd_94 hw)) (by decide) (t := .boolean) (t' := (.object "java/lang/String")) (by decide) (by decide)))).other W14 (Or.inr (slot_ne (Or.inl (wd_111 hw)) (Or.inl (wd_96 hw)) (by decide) (t := .boolean) (t' := (.object "java/lang/String")) (by decide) (by decide)))).other W15 (Or.inr (slot_ne (Or.inl (wd_111 hw)) (Or.inl (wd_98 hw)) (by decide) (t := .boolean) (t' := (.object "java/lang/String")) (by decide) (by decide)))).ext E16).other W18 (Or.inr (slot_ne (Or.inl (wd_111 hw)) (Or.inl (wd_107 hw)) (by decide) (t := .boolean) (t' := (.object "java/math/BigDecimal")) (by decide) (by decide)))).other W19 (Or.inr (slot_ne (Or.inl (wd_111 hw)) (Or.inl (wd_109 hw)) (by decide) (t := .boolean) (t' := (.object "com/example/meterwright/meterwright/pricing/MeterKind")) (by decide) (by decide))))
  refine w_putFN X dprog_68_4_124 (wd_110 hw) Via.refl f51 f50 (Or.inl (wd_111 hw)) (wd_35 hw) (ty := .boolean) (by decide) (.int vv) (congrArg Value.int hvv) (by rw [← hvv]; exact (fits_nar_bool _)) ga (fun T h20 X W20 => ?_)
  have f52 := f51.same W20
  have K53 : Keep h0 h20 [a] := K49.wr W20 (Or.inl (List.mem_of_getElem? (i := 0) rfl))
  refine w_aloadN X dprog_68_4_127 rfl (rfl) ?_
  refine w_aload X dprog_68_4_128 rfl (rfl) ?_
  refine v_ldcS X Y dprog_68_4_130 (wd_112 hw) (own_wS hw) 40 (by decide) (by decide) (by decide) (by decide) (fun T h21 u kk a21 X Y E21 => ?_)
  have K54 : Keep h0 h21 [a] := K53.ext E21
  refine w_callS X dprog_68_4_132 (wd_100 hw) (wd_101 hw) (wd_102 hw) (wd_103 hw) (by decide) (argsL := [(.ref an), (.ref a21)]) (S := [(.ref a)]) (m_rnn hw (a := an) (b := a21)) pd_5 rfl rfl rfl (by decide) (Nat.le_of_ble_eq_true rfl) (by decide) (by decide) (fun T h22 v22 L22 X q22 => ?_)
  obtain ⟨rfl, rfl⟩ := q22
  show Wp p e below _ (T.setTop (mkF m 135 #[.val (.ref a), .val (.ref iM), .val (.ref iE), .val (.ref s1), .val (.ref s2), .val (.ref s3), .val (.ref s4), .val (.ref bz), .val .null, .val (.int vv), .val (.ref an), .val .null] [(.ref an), (.ref a)]))
  refine w_cast X dprog_68_4_135 (wd_113 hw) (Ins.self (E_an.ext X.old.2)) (fun T X => ?_)
  have f55 := ((f50.wr W20).ext E21)
  have f56 := (((((((((((((((F_attributes.ext E2).ext E4).ext E6).ext E8).other W10 (Or.inr (slot_ne (Or.inl (wd_116 hw)) (Or.inl (wd_88 hw)) (by decide) (t := (.object "com/example/meterwright/meterwright/usage/Attributes")) (t' := (.object "java/time/Instant")) (by decide) (by decide)))).other W11 (Or.inr (slot_ne (Or.inl (wd_116 hw)) (Or.inl (wd_90 hw)) (by decide) (t := (.object "com/example/meterwright/meterwright/usage/Attributes")) (t' := (.object "java/time/Instant")) (by decide) (by decide)))).other W12 (Or.inr (slot_ne (Or.inl (wd_116 hw)) (Or.inl (wd_92 hw)) (by decide) (t := (.object "com/example/meterwright/meterwright/usage/Attributes")) (t' := (.object "java/lang/String")) (by decide) (by decide)))).other W13 (Or.inr (slot_ne (Or.inl (wd_116 hw)) (Or.inl (wd_94 hw)) (by decide) (t := (.object "com/example/meterwright/meterwright/usage/Attributes")) (t' := (.object "java/lang/String")) (by decide) (by decide)))).other W14 (Or.inr (slot_ne (Or.inl (wd_116 hw)) (Or.inl (wd_96 hw)) (by decide) (t := (.object "com/example/meterwright/meterwright/usage/Attributes")) (t' := (.object "java/lang/String")) (by decide) (by decide)))).other W15 (Or.inr (slot_ne (Or.inl (wd_116 hw)) (Or.inl (wd_98 hw)) (by decide) (t := (.object "com/example/meterwright/meterwright/usage/Attributes")) (t' := (.object "java/lang/String")) (by decide) (by decide)))).ext E16).other W18 (Or.inr (slot_ne (Or.inl (wd_116 hw)) (Or.inl (wd_107 hw)) (by decide) (t := (.object "com/example/meterwright/meterwright/usage/Attributes")) (t' := (.object "java/math/BigDecimal")) (by decide) (by decide)))).other W19 (Or.inr (slot_ne (Or.inl (wd_116 hw)) (Or.inl (wd_109 hw)) (by decide) (t := (.object "com/example/meterwright/meterwright/usage/Attributes")) (t' := (.object "com/example/meterwright/meterwright/pricing/MeterKind")) (by decide) (by decide)))).other W20 (Or.inr (slot_ne (Or.inl (wd_116 hw)) (Or.inl (wd_111 hw)) (by decide) (t := (.object "com/example/meterwright/meterwright/usage/Attributes")) (t' := .boolean) (by decide) (by decide)))).ext E21)
  refine w_putF X dprog_68_4_138 (host := "") (Or.inl (wd_115 hw)) Via.refl f56 f55 (Or.inl (wd_116 hw)) (wd_35 hw) (ty := (.object "com/example/meterwright/meterwright/usage/Attributes")) (by decide) rfl rfl ga (fun T h23 X W23 => ?_)
  have f57 := f56.same W23
  have K58 : Keep h0 h23 [a] := K54.wr W23 (Or.inl (List.mem_of_getElem? (i := 0) rfl))
  refine w_aloadN X dprog_68_4_141 rfl (rfl) ?_
  refine w_aload X dprog_68_4_142 rfl (rfl) ?_
  have f59 := (f55.wr W23)
  have f60 := ((((((((((((((((F_currency.ext E2).ext E4).ext E6).ext E8).other W10 (Or.inr (slot_ne (Or.inl (wd_118 hw)) (Or.inl (wd_88 hw)) (by decide) (t := (.object "java/lang/String")) (t' := (.object "java/time/Instant")) (by decide) (by decide)))).other W11 (Or.inr (slot_ne (Or.inl (wd_118 hw)) (Or.inl (wd_90 hw)) (by decide) (t := (.object "java/lang/String")) (t' := (.object "java/time/Instant")) (by decide) (by decide)))).other W12 (Or.inr (slot_ne (Or.inl (wd_118 hw)) (Or.inl (wd_92 hw)) (by decide) (t := (.object "java/lang/String")) (t' := (.object "java/lang/String")) (by decide) (by decide)))).other W13 (Or.inr (slot_ne (Or.inl (wd_118 hw)) (Or.inl (wd_94 hw)) (by decide) (t := (.object "java/lang/String")) (t' := (.object "java/lang/String")) (by decide) (by decide)))).other W14 (Or.inr (slot_ne (Or.inl (wd_118 hw)) (Or.inl (wd_96 hw)) (by decide) (t := (.object "java/lang/String")) (t' := (.object "java/lang/String")) (by decide) (by decide)))).other W15 (Or.inr (slot_ne (Or.inl (wd_118 hw)) (Or.inl (wd_98 hw)) (by decide) (t := (.object "java/lang/String")) (t' := (.object "java/lang/String")) (by decide) (by decide)))).ext E16).other W18 (Or.inr (slot_ne (Or.inl (wd_118 hw)) (Or.inl (wd_107 hw)) (by decide) (t := (.object "java/lang/String")) (t' := (.object "java/math/BigDecimal")) (by decide) (by decide)))).other W19 (Or.inr (slot_ne (Or.inl (wd_118 hw)) (Or.inl (wd_109 hw)) (by decide) (t := (.object "java/lang/String")) (t' := (.object "com/example/meterwright/meterwright/pricing/MeterKind")) (by decide) (by decide)))).other W20 (Or.inr (slot_ne (Or.inl (wd_118 hw)) (Or.inl (wd_111 hw)) (by decide) (t := (.object "java/lang/String")) (t' := .boolean) (by decide) (by decide)))).ext E21).other W23 (Or.inr (slot_ne (Or.inl (wd_118 hw)) (Or.inl (wd_116 hw)) (by decide) (t := (.object "java/lang/String")) (t' := (.object "com/example/meterwright/meterwright/usage/Attributes")) (by decide) (by decide))))
  refine w_putF X dprog_68_4_144 (host := "") (Or.inl (wd_117 hw)) Via.refl f60 f59 (Or.inl (wd_118 hw)) (wd_35 hw) (ty := (.object "java/lang/String")) (by decide) rfl rfl ga (fun T h24 X W24 => ?_)
  have f61 := f60.same W24
  have K62 : Keep h0 h24 [a] := K58.wr W24 (Or.inl (List.mem_of_getElem? (i := 0) rfl))
  refine w_aloadN X dprog_68_4_147 rfl (rfl) ?_
  have f63 := (f59.wr W24)
  have f64 := ((((((((((((f19.other W11 (Or.inr (slot_ne (Or.inl (wd_88 hw)) (Or.inl (wd_90 hw)) (by decide) (t := (.object "java/time/Instant")) (t' := (.object "java/time/Instant")) (by decide) (by decide)))).other W12 (Or.inr (slot_ne (Or.inl (wd_88 hw)) (Or.inl (wd_92 hw)) (by decide) (t := (.object "java/time/Instant")) (t' := (.object "java/lang/String")) (by decide) (by decide)))).other W13 (Or.inr (slot_ne (Or.inl (wd_88 hw)) (Or.inl (wd_94 hw)) (by decide) (t := (.object "java/time/Instant")) (t' := (.object "java/lang/String")) (by decide) (by decide)))).other W14 (Or.inr (slot_ne (Or.inl (wd_88 hw)) (Or.inl (wd_96 hw)) (by decide) (t := (.object "java/time/Instant")) (t' := (.object "java/lang/String")) (by decide) (by decide)))).other W15 (Or.inr (slot_ne (Or.inl (wd_88 hw)) (Or.inl (wd_98 hw)) (by decide) (t := (.object "java/time/Instant")) (t' := (.object "java/lang/String")) (by decide) (by decide)))).ext E16).other W18 (Or.inr (slot_ne (Or.inl (wd_88 hw)) (Or.inl (wd_107 hw)) (by decide) (t := (.object "java/time/Instant")) (t' := (.object "java/math/BigDecimal")) (by decide) (by decide)))).other W19 (Or.inr (slot_ne (Or.inl (wd_88 hw)) (Or.inl (wd_109 hw)) (by decide) (t := (.object "java/time/Instant")) (t' := (.object "com/example/meterwright/meterwright/pricing/MeterKind")) (by decide) (by decide)))).other W20 (Or.inr (slot_ne (Or.inl (wd_88 hw)) (Or.inl (wd_111 hw)) (by decide) (t := (.object "java/time/Instant")) (t' := .boolean) (by decide) (by decide)))).ext E21).other W23 (Or.inr (slot_ne (Or.inl (wd_88 hw)) (Or.inl (wd_116 hw)) (by decide) (t := (.object "java/time/Instant")) (t' := (.object "com/example/meterwright/meterwright/usage/Attributes")) (by decide) (by decide)))).other W24 (Or.inr (slot_ne (Or.inl (wd_88 hw)) (Or.inl (wd_118 hw)) (by decide) (t := (.object "java/time/Instant")) (t' := (.object "java/lang/String")) (by decide) (by decide))))
  have f65 := (((((((((((f23.other W12 (Or.inr (slot_ne (Or.inl (wd_90 hw)) (Or.inl (wd_92 hw)) (by decide) (t := (.object "java/time/Instant")) (t' := (.object "java/lang/String")) (by decide) (by decide)))).other W13 (Or.inr (slot_ne (Or.inl (wd_90 hw)) (Or.inl (wd_94 hw)) (by decide) (t := (.object "java/time/Instant")) (t' := (.object "java/lang/String")) (by decide) (by decide)))).other W14 (Or.inr (slot_ne (Or.inl (wd_90 hw)) (Or.inl (wd_96 hw)) (by decide) (t := (.object "java/time/Instant")) (t' := (.object "java/lang/String")) (by decide) (by decide)))).other W15 (Or.inr (slot_ne (Or.inl (wd_90 hw)) (Or.inl (wd_98 hw)) (by decide) (t := (.object "java/time/Instant")) (t' := (.object "java/lang/String")) (by decide) (by decide)))).ext E16).other W18 (Or.inr (slot_ne (Or.inl (wd_90 hw)) (Or.inl (wd_107 hw)) (by decide) (t := (.object "java/time/Instant")) (t' := (.object "java/math/BigDecimal")) (by decide) (by decide)))).other W19 (Or.inr (slot_ne (Or.inl (wd_90 hw)) (Or.inl (wd_109 hw)) (by decide) (t := (.object "java/time/Instant")) (t' := (.object "com/example/meterwright/meterwright/pricing/MeterKind")) (by decide) (by decide)))).other W20 (Or.inr (slot_ne (Or.inl (wd_90 hw)) (Or.inl (wd_111 hw)) (by decide) (t := (.object "java/time/Instant")) (t' := .boolean) (by decide) (by decide)))).ext E21).other W23 (Or.inr (slot_ne (Or.inl (wd_90 hw)) (Or.inl (wd_116 hw)) (by decide) (t := (.object "java/time/Instant")) (t' := (.object "com/example/meterwright/meterwright/usage/Attributes")) (by decide) (by decide)))).other W24 (Or.inr (slot_ne (Or.inl (wd_90 hw)) (Or.inl (wd_118 hw)) (by decide) (t := (.object "java/time/Instant")) (t' := (.object "java/lang/String")) (by decide) (by decide))))
  have f66 := ((((((((((f27.other W13 (Or.inr (slot_ne (Or.inl (wd_92 hw)) (Or.inl (wd_94 hw)) (by decide) (t := (.object "java/lang/String")) (t' := (.object "java/lang/String")) (by decide) (by decide)))).other W14 (Or.inr (slot_ne (Or.inl (wd_92 hw)) (Or.inl (wd_96 hw)) (by decide) (t := (.object "java/lang/String")) (t' := (.object "java/lang/String")) (by decide) (by decide)))).other W15 (Or.inr (slot_ne (Or.inl (wd_92 hw)) (Or.inl (wd_98 hw)) (by decide) (t := (.object "java/lang/String")) (t' := (.object "java/lang/String")) (by decide) (by decide)))).ext E16).other W18 (Or.inr (slot_ne (Or.inl (wd_92 hw)) (Or.inl (wd_107 hw)) (by decide) (t := (.object "java/lang/String")) (t' := (.object "java/math/BigDecimal")) (by decide) (by decide)))).other W19 (Or.inr (slot_ne (Or.inl (wd_92 hw)) (Or.inl (wd_109 hw)) (by decide) (t := (.object "java/lang/String")) (t' := (.object "com/example/meterwright/meterwright/pricing/MeterKind")) (by decide) (by decide)))).other W20 (Or.inr (slot_ne (Or.inl (wd_92 hw)) (Or.inl (wd_111 hw)) (by decide) (t := (.object "java/lang/String")) (t' := .boolean) (by decide) (by decide)))).ext E21).other W23 (Or.inr (slot_ne (Or.inl (wd_92 hw)) (Or.inl (wd_116 hw)) (by decide) (t := (.object "java/lang/String")) (t' := (.object "com/example/meterwright/meterwright/usage/Attributes")) (by decide) (by decide)))).other W24 (Or.inr (slot_ne (Or.inl (wd_92 hw)) (Or.inl (wd_118 hw)) (by decide) (t := (.object "java/lang/String")) (t' := (.object "java/lang/String")) (by decide) (by decide))))
  have f67 := (((((((((f31.other W14 (Or.inr (slot_ne (Or.inl (wd_94 hw)) (Or.inl (wd_96 hw)) (by decide) (t := (.object "java/lang/String")) (t' := (.object "java/lang/String")) (by decide) (by decide)))).other W15 (Or.inr (slot_ne (Or.inl (wd_94 hw)) (Or.inl (wd_98 hw)) (by decide) (t := (.object "java/lang/String")) (t' := (.object "java/lang/String")) (by decide) (by decide)))).ext E16).other W18 (Or.inr (slot_ne (Or.inl (wd_94 hw)) (Or.inl (wd_107 hw)) (by decide) (t := (.object "java/lang/String")) (t' := (.object "java/math/BigDecimal")) (by decide) (by decide)))).other W19 (Or.inr (slot_ne (Or.inl (wd_94 hw)) (Or.inl (wd_109 hw)) (by decide) (t := (.object "java/lang/String")) (t' := (.object "com/example/meterwright/meterwright/pricing/MeterKind")) (by decide) (by decide)))).other W20 (Or.inr (slot_ne (Or.inl (wd_94 hw)) (Or.inl (wd_111 hw)) (by decide) (t := (.object "java/lang/String")) (t' := .boolean) (by decide) (by decide)))).ext E21).other W23 (Or.inr (slot_ne (Or.inl (wd_94 hw)) (Or.inl (wd_116 hw)) (by decide) (t := (.object "java/lang/String")) (t' := (.object "com/example/meterwright/meterwright/usage/Attributes")) (by decide) (by decide)))).other W24 (Or.inr (slot_ne (Or.inl (wd_94 hw)) (Or.inl (wd_118 hw)) (by decide) (t := (.object "java/lang/String")) (t' := (.object "java/lang/String")) (by decide) (by decide))))
  have f68 := ((((((((f35.other W15 (Or.inr (slot_ne (Or.inl (wd_96 hw)) (Or.inl (wd_98 hw)) (by decide) (t := (.object "java/lang/String")) (t' := (.object "java/lang/String")) (by decide) (by decide)))).ext E16).other W18 (Or.inr (slot_ne (Or.inl (wd_96 hw)) (Or.inl (wd_107 hw)) (by decide) (t := (.object "java/lang/String")) (t' := (.object "java/math/BigDecimal")) (by decide) (by decide)))).other W19 (Or.inr (slot_ne (Or.inl (wd_96 hw)) (Or.inl (wd_109 hw)) (by decide) (t := (.object "java/lang/String")) (t' := (.object "com/example/meterwright/meterwright/pricing/MeterKind")) (by decide) (by decide)))).other W20 (Or.inr (slot_ne (Or.inl (wd_96 hw)) (Or.inl (wd_111 hw)) (by decide) (t := (.object "java/lang/String")) (t' := .boolean) (by decide) (by decide)))).ext E21).other W23 (Or.inr (slot_ne (Or.inl (wd_96 hw)) (Or.inl (wd_116 hw)) (by decide) (t := (.object "java/lang/String")) (t' := (.object "com/example/meterwright/meterwright/usage/Attributes")) (by decide) (by decide)))).other W24 (Or.inr (slot_ne (Or.inl (wd_96 hw)) (Or.inl (wd_118 hw)) (by decide) (t := (.object "java/lang/String")) (t' := (.object "java/lang/String")) (by decide) (by decide))))
  have f69 := (((((((f39.ext E16).other W18 (Or.inr (slot_ne (Or.inl (wd_98 hw)) (Or.inl (wd_107 hw)) (by decide) (t := (.object "java/lang/String")) (t' := (.object "java/math/BigDecimal")) (by decide) (by decide)))).other W19 (Or.inr (slot_ne (Or.inl (wd_98 hw)) (Or.inl (wd_109 hw)) (by decide) (t := (.object "java/lang/String")) (t' := (.object "com/example/meterwright/meterwright/pricing/MeterKind")) (by decide) (by decide)))).other W20 (Or.inr (slot_ne (Or.inl (wd_98 hw)) (Or.inl (wd_111 hw)) (by decide) (t := (.object "java/lang/String")) (t' := .boolean) (by decide) (by decide)))).ext E21).other W23 (Or.inr (slot_ne (Or.inl (wd_98 hw)) (Or.inl (wd_116 hw)) (by decide) (t := (.object "java/lang/String")) (t' := (.object "com/example/meterwright/meterwright/usage/Attributes")) (by decide) (by decide)))).other W24 (Or.inr (slot_ne (Or.inl (wd_98 hw)) (Or.inl (wd_118 hw)) (by decide) (t := (.object "java/lang/String")) (t' := (.object "java/lang/String")) (by decide) (by decide))))
  have f70 := (((((f44.other W19 (Or.inr (slot_ne (Or.inl (wd_107 hw)) (Or.inl (wd_109 hw)) (by decide) (t := (.object "java/math/BigDecimal")) (t' := (.object "com/example/meterwright/meterwright/pricing/MeterKind")) (by decide) (by decide)))).other W20 (Or.inr (slot_ne (Or.inl (wd_107 hw)) (Or.inl (wd_111 hw)) (by decide) (t := (.object "java/math/BigDecimal")) (t' := .boolean) (by decide) (by decide)))).ext E21).other W23 (Or.inr (slot_ne (Or.inl (wd_107 hw)) (Or.inl (wd_116 hw)) (by decide) (t := (.object "java/math/BigDecimal")) (t' := (.object "com/example/meterwright/meterwright/usage/Attributes")) (by decide) (by decide)))).other W24 (Or.inr (slot_ne (Or.inl (wd_107 hw)) (Or.inl (wd_118 hw)) (by decide) (t := (.object "java/math/BigDecimal")) (t' := (.object "java/lang/String")) (by decide) (by decide))))
  have f71 := ((((f48.other W20 (Or.inr (slot_ne (Or.inl (wd_109 hw)) (Or.inl (wd_111 hw)) (by decide) (t := (.object "com/example/meterwright/meterwright/pricing/MeterKind")) (t' := .boolean) (by decide) (by decide)))).ext E21).other W23 (Or.inr (slot_ne (Or.inl (wd_109 hw)) (Or.inl (wd_116 hw)) (by decide) (t := (.object "com/example/meterwright/meterwright/pricing/MeterKind")) (t' := (.object "com/example/meterwright/meterwright/usage/Attributes")) (by decide) (by decide)))).other W24 (Or.inr (slot_ne (Or.inl (wd_109 hw)) (Or.inl (wd_118 hw)) (by decide) (t := (.object "com/example/meterwright/meterwright/pricing/MeterKind")) (t' := (.object "java/lang/String")) (by decide) (by decide))))
  have f72 := (((f52.ext E21).other W23 (Or.inr (slot_ne (Or.inl (wd_111 hw)) (Or.inl (wd_116 hw)) (by decide) (t := .boolean) (t' := (.object "com/example/meterwright/meterwright/usage/Attributes")) (by decide) (by decide)))).other W24 (Or.inr (slot_ne (Or.inl (wd_111 hw)) (Or.inl (wd_118 hw)) (by decide) (t := .boolean) (t' := (.object "java/lang/String")) (by decide) (by decide))))
  have f73 := (f57.other W24 (Or.inr (slot_ne (Or.inl (wd_116 hw)) (Or.inl (wd_118 hw)) (by decide) (t := (.object "com/example/meterwright/meterwright/usage/Attributes")) (t' := (.object "java/lang/String")) (by decide) (by decide))))
  exact v_retR X Y rfl (rfl) rfl dprog_68_4_148 ⟨rfl, f63, f64, f65, f66, f67, f68, f69, f70, f71, f72, f73, f61, K62⟩ (by decide) (by decide)
set_option maxRecDepth 65536 in
set_option maxHeartbeats 40000000 in
theorem m_i11 {l : Launch} {Z : State} {a0 : Array Value} {n0 : Nat} (hw : ∀ d ∈ tables_1, d.before a0 Z = true) {h0 : Heap} {zc : Int32} {fm : Value} {iM iE bz an : Addr} {a s1 s2 s3 s4 ts1 ts2 ts3 ts4 : Addr} {bs1 bs2 bs3 bs4 : List Value} {vv : Int32} (S_zc : Sta Z Z.heap "java/lang/String" "COMPACT_STRINGS" "Z" (.int zc)) (hzc : ¬ zc = 0) (S_fm : Sta Z Z.heap "jdk/internal/util/Preconditions" "SIOOBE_FORMATTER" "Ljava/util/function/BiFunction;" fm) (hfm : fm.isRef = true) (S_iM : Sta Z Z.heap "java/time/Instant" "MIN" "Ljava/time/Instant;" (.ref iM)) (E_iM : Exa Z Z.heap iM "java/time/Instant") (S_iE : Sta Z Z.heap "java/time/Instant" "EPOCH" "Ljava/time/Instant;" (.ref iE)) (E_iE : Exa Z Z.heap iE "java/time/Instant") (S_bz : Sta Z Z.heap "java/math/BigDecimal" "ZERO" "Ljava/math/BigDecimal;" (.ref bz)) (E_bz : Exa Z Z.heap bz "java/math/BigDecimal") (S_an : Sta Z Z.heap "com/example/meterwright/meterwright/usage/Attributes" "NONE" "Lcom/example/meterwright/meterwright/usage/Attributes;" (.ref an)) (E_an : Exa Z Z.heap an "com/example/meterwright/meterwright/usage/Attributes") (T_iM : Fld Z Z.heap iM "java/time/Instant" "seconds" "J" (.long (-31557014167219200 : Int64))) (T_iE : Fld Z Z.heap iE "java/time/Instant" "seconds" "J" (.long (0 : Int64))) (E_s1 : Exa Z h0 s1 "java/lang/String") (V_s1 : Fld Z h0 s1 "java/lang/String" "value" "[B" (.ref ts1)) (A_s1 : Ary Z h0 ts1 .byte bs1) (hn_s1 : ¬ bs1.length.toInt32 = 0) (E_s2 : Exa Z h0 s2 "java/lang/String") (V_s2 : Fld Z h0 s2 "java/lang/String" "value" "[B" (.ref ts2)) (A_s2 : Ary Z h0 ts2 .byte bs2) (hn_s2 : ¬ bs2.length.toInt32 = 0) (E_s3 : Exa Z h0 s3 "java/lang/String") (V_s3 : Fld Z h0 s3 "java/lang/String" "value" "[B" (.ref ts3)) (A_s3 : Ary Z h0 ts3 .byte bs3) (hn_s3 : ¬ bs3.length.toInt32 = 0) (E_s4 : Exa Z h0 s4 "java/lang/String") (V_s4 : Fld Z h0 s4 "java/lang/String" "value" "[B" (.ref ts4)) (A_s4 : Ary Z h0 ts4 .byte bs4) (hn_s4 : ¬ bs4.length.toInt32 = 0) (ga : n0 ≤ a) (Ea : Exa Z h0 a "com/example/meterwright/meterwright/usage/UsageRecord") (F_start : Fld Z h0 a "com/example/meterwright/meterwright/usage/UsageRecord" "start" "Ljava/time/Instant;" .null) (F_end : Fld Z h0 a "com/example/meterwright/meterwright/usage/UsageRecord" "end" "Ljava/time/Instant;" .null) (F_tenant : Fld Z h0 a "com/example/meterwright/meterwright/usage/UsageRecord" "tenant" "Ljava/lang/String;" .null) (F_project : Fld Z h0 a "com/example/meterwright/meterwright/usage/UsageRecord" "project" "Ljava/lang/String;" .null) (F_resource : Fld Z h0 a "com/example/meterwright/meterwright/usage/UsageRecord" "resource" "Ljava/lang/String;" .null) (F_meter : Fld Z h0 a "com/example/meterwright/meterwright/usage/UsageRecord" "meter" "Ljava/lang/String;" .null) (F_quantity : Fld Z h0 a "com/example/meterwright/meterwright/usage/UsageRecord" "quantity" "Ljava/math/BigDecimal;" .null) (F_kind : Fld Z h0 a "com/example/meterwright/meterwright/usage/UsageRecord" "kind" "Lcom/example/meterwright/meterwright/pricing/MeterKind;" .null) (F_valid : Fld Z h0 a "com/example/meterwright/meterwright/usage/UsageRecord" "valid" "Z" (.int (0 : Int32))) (F_attributes : Fld Z h0 a "com/example/meterwright/meterwright/usage/UsageRecord" "attributes" "Lcom/example/meterwright/meterwright/usage/Attributes;" .null) (F_currency : Fld Z h0 a "com/example/meterwright/meterwright/usage/UsageRecord" "currency" "Ljava/lang/String;" .null) (hvv : nar .boolean vv = vv) :
    DoesW l Z n0 ⟨"com/example/meterwright/meterwright/usage/UsageRecord", "<init>", "(Ljava/time/Instant;Ljava/time/Instant;Ljava/lang/String;Ljava/lang/String;Ljava/lang/String;Ljava/lang/String;Ljava/math/BigDecimal;Lcom/example/meterwright/meterwright/pricing/MeterKind;ZLcom/example/meterwright/meterwright/usage/Attributes;Ljava/lang/String;)V"⟩ prog_68_method_2_code 12 none [] { frames := 4, cells := 12, slots := 200, locals := 65 } #[(.ref a), (.ref iM), (.ref iE), (.ref s1), (.ref s2), (.ref s3), (.ref s4), (.ref bz), .null, (.int vv), (.ref an), .null] h0 (fun v h => v = none ∧ Exa Z h a "com/example/meterwright/meterwright/usage/UsageRecord" ∧ Fld Z h a "com/example/meterwright/meterwright/usage/UsageRecord" "start" "Ljava/time/Instant;" (.ref iM) ∧ Fld Z h a "com/example/meterwright/meterwright/usage/UsageRecord" "end" "Ljava/time/Instant;" (.ref iE) ∧ Fld Z h a "com/example/meterwright/meterwright/usage/UsageRecord" "tenant" "Ljava/lang/String;" (.ref s1) ∧ Fld Z h a "com/example/meterwright/meterwright/usage/UsageRecord" "project" "Ljava/lang/String;" (.ref s2) ∧ Fld Z h a "com/example/meterwright/meterwright/usage/UsageRecord" "resource" "Ljava/lang/String;" (.ref s3) ∧ Fld Z h a "com/example/meterwright/meterwright/usage/UsageRecord" "meter" "Ljava/lang/String;" (.ref s4) ∧ Fld Z h a "com/example/meterwright/meterwright/usage/UsageRecord" "quantity" "Ljava/math/BigDecimal;" (.ref bz) ∧ Fld Z h a "com/example/meterwright/meterwright/usage/UsageRecord" "kind" "Lcom/example/meterwright/meterwright/pricing/MeterKind;" .null ∧ Fld Z h a "com/example/meterwright/meterwright/usage/UsageRecord" "valid" "Z" (.int vv) ∧ Fld Z h a "com/example/meterwright/meterwright/usage/UsageRecord" "attributes" "Lcom/example/meterwright/meterwright/usage/Attributes;" (.ref an) ∧ Fld Z h a "com/example/meterwright/meterwright/usage/UsageRecord" "currency" "Ljava/lang/String;" .null ∧ Keep h0 h [a]) := by
  refine DoesW.start (plainFor_of_name pn_3) ?_
  intro p e s m below meth c T X Y hs0
  replace X : Sd Z n0 0 prog_68_method_2_code 12 "com/example/meterwright/meterwright/usage/UsageRecord" "<init>" none h0 p l e { frames := 4, cells := 12, slots := 200, locals := 65 } (s.setVm s.vm) m #[(.ref a), (.ref iM), (.ref iE), (.ref s1), (.ref s2), (.ref s3), (.ref s4), (.ref bz), .null, (.int vv), (.ref an), .null] below meth c T [] 0 0 := X
  refine Wp.cast (g' := mkF m 0 #[.val (.ref a), .val (.ref iM), .val (.ref iE), .val (.ref s1), .val (.ref s2), .val (.ref s3), .val (.ref s4), .val (.ref bz), .val .null, .val (.int vv), .val (.ref an), .val .null] []) (by first | (simp [entryFrame, mkF, argsToLocals, Value.category, maxLocals]; done) | rfl) ?_
  refine w_aloadN X dprog_68_2_0 rfl (rfl) ?_
  refine w_initO X dprog_68_2_1 (wd_51 hw) (wd_16 hw) (wd_17 hw) rfl (by decide) (Nat.le_of_ble_eq_true rfl) (fun T X => ?_)
  refine w_aloadN X dprog_68_2_4 rfl (rfl) ?_
  refine w_aloadN X dprog_68_2_5 rfl (rfl) ?_
  refine w_aloadN X dprog_68_2_6 rfl (rfl) ?_
  refine w_aloadN X dprog_68_2_7 rfl (rfl) ?_
  refine w_aload X dprog_68_2_8 rfl (rfl) ?_
  refine w_aload X dprog_68_2_10 rfl (rfl) ?_
  refine w_aload X dprog_68_2_12 rfl (rfl) ?_
  refine w_aload X dprog_68_2_14 rfl (rfl) ?_
  refine w_aload X dprog_68_2_16 rfl (rfl) ?_
  refine w_iload X dprog_68_2_18 rfl ?_
  refine w_aload X dprog_68_2_20 rfl (rfl) ?_
  refine w_aload X dprog_68_2_22 rfl (rfl) ?_
  refine v_callV X Y dprog_68_2_24 (wd_52 hw) (wd_53 hw) (notFace_of_selects (args := #[]) (mvT X.hZ (wd_55 hw))) (wd_55 hw) (wd_54 hw) (wd_36 hw) (wd_56 hw) (by decide) Ea (argsL := [(.ref iM), (.ref iE), (.ref s1), (.ref s2), (.ref s3), (.ref s4), (.ref bz), .null, (.int vv), (.ref an), .null]) (S := []) (m_set hw S_zc hzc S_fm hfm S_iM E_iM S_iE E_iE S_bz E_bz S_an E_an T_iM T_iE E_s1 V_s1 A_s1 hn_s1 E_s2 V_s2 A_s2 hn_s2 E_s3 V_s3 A_s3 hn_s3 E_s4 V_s4 A_s4 hn_s4 ga Ea F_start F_end F_tenant F_project F_resource F_meter F_quantity F_kind F_valid F_attributes F_currency hvv) pd_6 rfl rfl rfl (by decide) (Nat.le_of_ble_eq_true rfl) (by decide) (by decide) (fun T h1 v1 L1 u kk X Y q1 => ?_)
  obtain ⟨rfl, Ex1, Fstart1, Fend1, Ftenant1, Fproject1, Fresource1, Fmeter1, Fquantity1, Fkind1, Fvalid1, Fattributes1, Fcurrency1, Kc1⟩ := q1
  have K1 : Keep h0 h1 [a] := (Keep.refl h0 [a]).trans Kc1 (fun x hx => by cases List.mem_singleton.mp hx; exact (Or.inl (List.mem_of_getElem? (i := 0) rfl)))
  show Wp p e below _ (T.setTop (mkF m 27 #[.val (.ref a), .val (.ref iM), .val (.ref iE), .val (.ref s1), .val (.ref s2), .val (.ref s3), .val (.ref s4), .val (.ref bz), .val .null, .val (.int vv), .val (.ref an), .val .null] [(.ref a)]))
  refine w_pop X dprog_68_2_27 rfl ?_
  exact v_retV X Y dprog_68_2_28 ⟨rfl, Ex1, Fstart1, Fend1, Ftenant1, Fproject1, Fresource1, Fmeter1, Fquantity1, Fkind1, Fvalid1, Fattributes1, Fcurrency1, K1⟩ (by decide) (by decide)
set_option maxRecDepth 65536 in
set_option maxHeartbeats 40000000 in
theorem m_i9 {l : Launch} {Z : State} {a0 : Array Value} {n0 : Nat} (hw : ∀ d ∈ tables_1, d.before a0 Z = true) {h0 : Heap} {zc : Int32} {fm : Value} {iM iE bz an : Addr} {a s1 s2 s3 s4 ts1 ts2 ts3 ts4 : Addr} {bs1 bs2 bs3 bs4 : List Value} {vv : Int32} (S_zc : Sta Z Z.heap "java/lang/String" "COMPACT_STRINGS" "Z" (.int zc)) (hzc : ¬ zc = 0) (S_fm : Sta Z Z.heap "jdk/internal/util/Preconditions" "SIOOBE_FORMATTER" "Ljava/util/function/BiFunction;" fm) (hfm : fm.isRef = true) (S_iM : Sta Z Z.heap "java/time/Instant" "MIN" "Ljava/time/Instant;" (.ref iM)) (E_iM : Exa Z Z.heap iM "java/time/Instant") (S_iE : Sta Z Z.heap "java/time/Instant" "EPOCH" "Ljava/time/Instant;" (.ref iE)) (E_iE : Exa Z Z.heap iE "java/time/Instant") (S_bz : Sta Z Z.heap "java/math/BigDecimal" "ZERO" "Ljava/math/BigDecimal;" (.ref bz)) (E_bz : Exa Z Z.heap bz "java/math/BigDecimal") (S_an : Sta Z Z.heap "com/example/meterwright/meterwright/usage/Attributes" "NONE" "Lcom/example/meterwright/meterwright/usage/Attributes;" (.ref an)) (E_an : Exa Z Z.heap an "com/example/meterwright/meterwright/usage/Attributes") (T_iM : Fld Z Z.heap iM "java/time/Instant" "seconds" "J" (.long (-31557014167219200 : Int64))) (T_iE : Fld Z Z.heap iE "java/time/Instant" "seconds" "J" (.long (0 : Int64))) (E_s1 : Exa Z h0 s1 "java/lang/String") (V_s1 : Fld Z h0 s1 "java/lang/String" "value" "[B" (.ref ts1)) (A_s1 : Ary Z h0 ts1 .byte bs1) (hn_s1 : ¬ bs1.length.toInt32 = 0) (E_s2 : Exa Z h0 s2 "java/lang/String") (V_s2 : Fld Z h0 s2 "java/lang/String" "value" "[B" (.ref ts2)) (A_s2 : Ary Z h0 ts2 .byte bs2) (hn_s2 : ¬ bs2.length.toInt32 = 0) (E_s3 : Exa Z h0 s3 "java/lang/String") (V_s3 : Fld Z h0 s3 "java/lang/String" "value" "[B" (.ref ts3)) (A_s3 : Ary Z h0 ts3 .byte bs3) (hn_s3 : ¬ bs3.length.toInt32 = 0) (E_s4 : Exa Z h0 s4 "java/lang/String") (V_s4 : Fld Z h0 s4 "java/lang/String" "value" "[B" (.ref ts4)) (A_s4 : Ary Z h0 ts4 .byte bs4) (hn_s4 : ¬ bs4.length.toInt32 = 0) (ga : n0 ≤ a) (Ea : Exa Z h0 a "com/example/meterwright/meterwright/usage/UsageRecord") (F_start : Fld Z h0 a "com/example/meterwright/meterwright/usage/UsageRecord" "start" "Ljava/time/Instant;" .null) (F_end : Fld Z h0 a "com/example/meterwright/meterwright/usage/UsageRecord" "end" "Ljava/time/Instant;" .null) (F_tenant : Fld Z h0 a "com/example/meterwright/meterwright/usage/UsageRecord" "tenant" "Ljava/lang/String;" .null) (F_project : Fld Z h0 a "com/example/meterwright/meterwright/usage/UsageRecord" "project" "Ljava/lang/String;" .null) (F_resource : Fld Z h0 a "com/example/meterwright/meterwright/usage/UsageRecord" "resource" "Ljava/lang/String;" .null) (F_meter : Fld Z h0 a "com/example/meterwright/meterwright/usage/UsageRecord" "meter" "Ljava/lang/String;" .null) (F_quantity : Fld Z h0 a "com/example/meterwright/meterwright/usage/UsageRecord" "quantity" "Ljava/math/BigDecimal;" .null) (F_kind : Fld Z h0 a "com/example/meterwright/meterwright/usage/UsageRecord" "kind" "Lcom/example/meterwright/meterwright/pricing/MeterKind;" .null) (F_valid : Fld Z h0 a "com/example/meterwright/meterwright/usage/UsageRecord" "valid" "Z" (.int (0 : Int32))) (F_attributes : Fld Z h0 a "com/example/meterwright/meterwright/usage/UsageRecord" "attributes" "Lcom/example/meterwright/meterwright/usage/Attributes;" .null) (F_currency : Fld Z h0 a "com/example/meterwright/meterwright/usage/UsageRecord" "currency" "Ljava/lang/String;" .null) (hvv : nar .boolean vv = vv) :
    DoesW l Z n0 ⟨"com/example/meterwright/meterwright/usage/UsageRecord", "<init>", "(Ljava/time/Instant;Ljava/time/Instant;Ljava/lang/String;Ljava/lang/String;Ljava/lang/String;Ljava/lang/String;Ljava/math/BigDecimal;Lcom/example/meterwright/meterwright/pricing/MeterKind;Z)V"⟩ prog_68_method_1_code 10 none [] { frames := 5, cells := 12, slots := 200, locals := 88 } #[(.ref a), (.ref iM), (.ref iE), (.ref s1), (.ref s2), (.ref s3), (.ref s4), (.ref bz), .null, (.int vv)] h0 (fun v h => v = none ∧ Exa Z h a "com/example/meterwright/meterwright/usage/UsageRecord" ∧ Fld Z h a "com/example/meterwright/meterwright/usage/UsageRecord" "start" "Ljava/time/Instant;" (.ref iM) ∧ Fld Z h a "com/example/meterwright/meterwright/usage/UsageRecord" "end" "Ljava/time/Instant;" (.ref iE) ∧ Fld Z h a "com/example/meterwright/meterwright/usage/UsageRecord" "tenant" "Ljava/lang/String;" (.ref s1) ∧ Fld Z h a "com/example/meterwright/meterwright/usage/UsageRecord" "project" "Ljava/lang/String;" (.ref s2) ∧ Fld Z h a "com/example/meterwright/meterwright/usage/UsageRecord" "resource" "Ljava/lang/String;" (.ref s3) ∧ Fld Z h a "com/example/meterwright/meterwright/usage/UsageRecord" "meter" "Ljava/lang/String;" (.ref s4) ∧ Fld Z h a "com/example/meterwright/meterwright/usage/UsageRecord" "quantity" "Ljava/math/BigDecimal;" (.ref bz) ∧ Fld Z h a "com/example/meterwright/meterwright/usage/UsageRecord" "kind" "Lcom/example/meterwright/meterwright/pricing/MeterKind;" .null ∧ Fld Z h a "com/example/meterwright/meterwright/usage/UsageRecord" "valid" "Z" (.int vv) ∧ Fld Z h a "com/example/meterwright/meterwright/usage/UsageRecord" "attributes" "Lcom/example/meterwright/meterwright/usage/Attributes;" (.ref an) ∧ Fld Z h a "com/example/meterwright/meterwright/usage/UsageRecord" "currency" "Ljava/lang/String;" .null ∧ Keep h0 h [a]) := by
  refine DoesW.start (plainFor_of_name pn_3) ?_
  intro p e s m below meth c T X Y hs0
  replace X : Sd Z n0 0 prog_68_method_1_code 10 "com/example/meterwright/meterwright/usage/UsageRecord" "<init>" none h0 p l e { frames := 5, cells := 12, slots := 200, locals := 88 } (s.setVm s.vm) m #[(.ref a), (.ref iM), (.ref iE), (.ref s1), (.ref s2), (.ref s3), (.ref s4), (.ref bz), .null, (.int vv)] below meth c T [] 0 0 := X
  refine Wp.cast (g' := mkF m 0 #[.val (.ref a), .val (.ref iM), .val (.ref iE), .val (.ref s1), .val (.ref s2), .val (.ref s3), .val (.ref s4), .val (.ref bz), .val .null, .val (.int vv)] []) (by first | (simp [entryFrame, mkF, argsToLocals, Value.category, maxLocals]; done) | rfl) ?_
  refine w_aloadN X dprog_68_1_0 rfl (rfl) ?_
  refine w_aloadN X dprog_68_1_1 rfl (rfl) ?_
  refine w_aloadN X dprog_68_1_2 rfl (rfl) ?_
  refine w_aloadN X dprog_68_1_3 rfl (rfl) ?_
  refine w_aload X dprog_68_1_4 rfl (rfl) ?_
  refine w_aload X dprog_68_1_6 rfl (rfl) ?_
  refine w_aload X dprog_68_1_8 rfl (rfl) ?_
  refine w_aload X dprog_68_1_10 rfl (rfl) ?_
  refine w_aload X dprog_68_1_12 rfl (rfl) ?_
  refine w_iload X dprog_68_1_14 rfl ?_
  refine w_getS X dprog_68_1_16 (host := "") (Or.inl (wd_45 hw)) Via.refl (S_an.ext X.old.2) (fun T X => ?_)
  refine w_aconstNull X dprog_68_1_19 ?_
  refine v_callI X Y dprog_68_1_20 rfl (wd_48 hw) (wd_49 hw) (wd_36 hw) (wd_50 hw) (by decide) (argsL := [(.ref iM), (.ref iE), (.ref s1), (.ref s2), (.ref s3), (.ref s4), (.ref bz), .null, (.int vv), (.ref an), .null]) (S := []) (m_i11 hw S_zc hzc S_fm hfm S_iM E_iM S_iE E_iE S_bz E_bz S_an E_an T_iM T_iE E_s1 V_s1 A_s1 hn_s1 E_s2 V_s2 A_s2 hn_s2 E_s3 V_s3 A_s3 hn_s3 E_s4 V_s4 A_s4 hn_s4 ga Ea F_start F_end F_tenant F_project F_resource F_meter F_quantity F_kind F_valid F_attributes F_currency hvv) pd_7 rfl rfl rfl (by decide) (Nat.le_of_ble_eq_true rfl) (by decide) (by decide) (fun T h1 v1 L1 u kk X Y q1 => ?_)
  obtain ⟨rfl, Ex1, Fstart1, Fend1, Ftenant1, Fproject1, Fresource1, Fmeter1, Fquantity1, Fkind1, Fvalid1, Fattributes1, Fcurrency1, Kc1⟩ := q1
  have K1 : Keep h0 h1 [a] := (Keep.refl h0 [a]).trans Kc1 (fun x hx => by cases List.mem_singleton.mp hx; exact (Or.inl (List.mem_of_getElem? (i := 0) rfl)))
  show Wp p e below _ (T.setTop (mkF m 23 #[.val (.ref a), .val (.ref iM), .val (.ref iE), .val (.ref s1), .val (.ref s2), .val (.ref s3), .val (.ref s4), .val (.ref bz), .val .null, .val (.int vv)] []))
  exact v_retV X Y dprog_68_1_23 ⟨rfl, Ex1, Fstart1, Fend1, Ftenant1, Fproject1, Fresource1, Fmeter1, Fquantity1, Fkind1, Fvalid1, Fattributes1, Fcurrency1, K1⟩ (by decide) (by decide)
set_option maxRecDepth 65536 in
set_option maxHeartbeats 40000000 in
theorem m_gu_tenant {l : Launch} {Z : State} {a0 : Array Value} {n0 : Nat} (hw : ∀ d ∈ tables_1, d.before a0 Z = true) {h0 : Heap} {a r : Addr} (F : Fld Z h0 a "com/example/meterwright/meterwright/usage/UsageRecord" "tenant" "Ljava/lang/String;" (.ref r)) :
    Does l Z n0 ⟨"com/example/meterwright/meterwright/usage/UsageRecord", "tenant", "()Ljava/lang/String;"⟩ prog_68_method_9_code 1 (some (.object "java/lang/String")) [] { frames := 0, cells := 0, slots := 0, locals := 0 } #[(.ref a)] h0 (fun v h => v = some (.ref r) ∧ h0 = h) := by
  refine Does.start (plainFor_of_name pn_3) ?_
  intro p e s m below meth c T X
  replace X : Sd Z n0 0 prog_68_method_9_code 1 "com/example/meterwright/meterwright/usage/UsageRecord" "tenant" (some (.object "java/lang/String")) h0 p l e { frames := 0, cells := 0, slots := 0, locals := 0 } s m #[(.ref a)] below meth c T [] 0 0 := X
  refine Wp.cast (g' := mkF m 0 #[.val (.ref a)] []) (by first | (simp [entryFrame, mkF, argsToLocals, Value.category, maxLocals]; done) | rfl) ?_
  refine w_aloadN X dprog_68_9_0 rfl (rfl) ?_
  refine w_getF X dprog_68_9_1 (host := "") (Or.inl (wd_91 hw)) Via.refl F (fun T X => ?_)
  exact w_retR X rfl (rfl) rfl dprog_68_9_4 ⟨rfl, rfl⟩ (by decide) (by decide)
set_option maxRecDepth 65536 in
set_option maxHeartbeats 40000000 in
theorem m_gu_project {l : Launch} {Z : State} {a0 : Array Value} {n0 : Nat} (hw : ∀ d ∈ tables_1, d.before a0 Z = true) {h0 : Heap} {a r : Addr} (F : Fld Z h0 a "com/example/meterwright/meterwright/usage/UsageRecord" "project" "Ljava/lang/String;" (.ref r)) :
    Does l Z n0 ⟨"com/example/meterwright/meterwright/usage/UsageRecord", "project", "()Ljava/lang/String;"⟩ prog_68_method_10_code 1 (some (.object "java/lang/String")) [] { frames := 0, cells := 0, slots := 0, locals := 0 } #[(.ref a)] h0 (fun v h => v = some (.ref r) ∧ h0 = h) := by
  refine Does.start (plainFor_of_name pn_3) ?_
  intro p e s m below meth c T X
  replace X : Sd Z n0 0 prog_68_method_10_code 1 "com/example/meterwright/meterwright/usage/UsageRecord" "project" (some (.object "java/lang/String")) h0 p l e { frames := 0, cells := 0, slots := 0, locals := 0 } s m #[(.ref a)] below meth c T [] 0 0 := X
  refine Wp.cast (g' := mkF m 0 #[.val (.ref a)] []) (by first | (simp [entryFrame, mkF, argsToLocals, Value.category, maxLocals]; done) | rfl) ?_
  refine w_aloadN X dprog_68_10_0 rfl (rfl) ?_
  refine w_getF X dprog_68_10_1 (host := "") (Or.inl (wd_93 hw)) Via.refl F (fun T X => ?_)
  exact w_retR X rfl (rfl) rfl dprog_68_10_4 ⟨rfl, rfl⟩ (by decide) (by decide)
set_option maxRecDepth 65536 in
set_option maxHeartbeats 40000000 in
theorem m_gu_resource {l : Launch} {Z : State} {a0 : Array Value} {n0 : Nat} (hw : ∀ d ∈ tables_1, d.before a0 Z = true) {h0 : Heap} {a r : Addr} (F : Fld Z h0 a "com/example/meterwright/meterwright/usage/UsageRecord" "resource" "Ljava/lang/String;" (.ref r)) :
    Does l Z n0 ⟨"com/example/meterwright/meterwright/usage/UsageRecord", "resource", "()Ljava/lang/String;"⟩ prog_68_method_11_code 1 (some (.object "java/lang/String")) [] { frames := 0, cells := 0, slots := 0, locals := 0 } #[(.ref a)] h0 (fun v h => v = some (.ref r) ∧ h0 = h) := by
  refine Does.start (plainFor_of_name pn_3) ?_
  intro p e s m below meth c T X
  replace X : Sd Z n0 0 prog_68_method_11_code 1 "com/example/meterwright/meterwright/usage/UsageRecord" "resource" (some (.object "java/lang/String")) h0 p l e { frames := 0, cells := 0, slots := 0, locals := 0 } s m #[(.ref a)] below meth c T [] 0 0 := X
  refine Wp.cast (g' := mkF m 0 #[.val (.ref a)] []) (by first | (simp [entryFrame, mkF, argsToLocals, Value.category, maxLocals]; done) | rfl) ?_
  refine w_aloadN X dprog_68_11_0 rfl (rfl) ?_
  refine w_getF X dprog_68_11_1 (host := "") (Or.inl (wd_95 hw)) Via.refl F (fun T X => ?_)
  exact w_retR X rfl (rfl) rfl dprog_68_11_4 ⟨rfl, rfl⟩ (by decide) (by decide)
set_option maxRecDepth 65536 in
set_option maxHeartbeats 40000000 in
theorem m_gu_meter {l : Launch} {Z : State} {a0 : Array Value} {n0 : Nat} (hw : ∀ d ∈ tables_1, d.before a0 Z = true) {h0 : Heap} {a r : Addr} (F : Fld Z h0 a "com/example/meterwright/meterwright/usage/UsageRecord" "meter" "Ljava/lang/String;" (.ref r)) :
    Does l Z n0 ⟨"com/example/meterwright/meterwright/usage/UsageRecord", "meter", "()Ljava/lang/String;"⟩ prog_68_method_12_code 1 (some (.object "java/lang/String")) [] { frames := 0, cells := 0, slots := 0, locals := 0 } #[(.ref a)] h0 (fun v h => v = some (.ref r) ∧ h0 = h) := by
  refine Does.start (plainFor_of_name pn_3) ?_
  intro p e s m below meth c T X
  replace X : Sd Z n0 0 prog_68_method_12_code 1 "com/example/meterwright/meterwright/usage/UsageRecord" "meter" (some (.object "java/lang/String")) h0 p l e { frames := 0, cells := 0, slots := 0, locals := 0 } s m #[(.ref a)] below meth c T [] 0 0 := X
  refine Wp.cast (g' := mkF m 0 #[.val (.ref a)] []) (by first | (simp [entryFrame, mkF, argsToLocals, Value.category, maxLocals]; done) | rfl) ?_
  refine w_aloadN X dprog_68_12_0 rfl (rfl) ?_
  refine w_getF X dprog_68_12_1 (host := "") (Or.inl (wd_97 hw)) Via.refl F (fun T X => ?_)
  exact w_retR X rfl (rfl) rfl dprog_68_12_4 ⟨rfl, rfl⟩ (by decide) (by decide)
set_option maxRecDepth 65536 in
set_option maxHeartbeats 40000000 in
theorem m_gh_tenant {l : Launch} {Z : State} {a0 : Array Value} {n0 : Nat} (hw : ∀ d ∈ tables_1, d.before a0 Z = true) {h0 : Heap} {a r : Addr} (F : Fld Z h0 a "com/example/meterwright/meterwright/snapshot/Holding" "tenant" "Ljava/lang/String;" (.ref r)) :
    Does l Z n0 ⟨"com/example/meterwright/meterwright/snapshot/Holding", "tenant", "()Ljava/lang/String;"⟩ prog_57_method_3_code 1 (some (.object "java/lang/String")) [] { frames := 0, cells := 0, slots := 0, locals := 0 } #[(.ref a)] h0 (fun v h => v = some (.ref r) ∧ h0 = h) := by
  refine Does.start (plainFor_of_name pn_5) ?_
  intro p e s m below meth c T X
  replace X : Sd Z n0 0 prog_57_method_3_code 1 "com/example/meterwright/meterwright/snapshot/Holding" "tenant" (some (.object "java/lang/String")) h0 p l e { frames := 0, cells := 0, slots := 0, locals := 0 } s m #[(.ref a)] below meth c T [] 0 0 := X
  refine Wp.cast (g' := mkF m 0 #[.val (.ref a)] []) (by first | (simp [entryFrame, mkF, argsToLocals, Value.category, maxLocals]; done) | rfl) ?_
  refine w_aloadN X dprog_57_3_0 rfl (rfl) ?_
  refine w_getF X dprog_57_3_1 (host := "") (Or.inl (wd_149 hw)) Via.refl F (fun T X => ?_)
  exact w_retR X rfl (rfl) rfl dprog_57_3_4 ⟨rfl, rfl⟩ (by decide) (by decide)
set_option maxRecDepth 65536 in
set_option maxHeartbeats 40000000 in
theorem m_gh_project {l : Launch} {Z : State} {a0 : Array Value} {n0 : Nat} (hw : ∀ d ∈ tables_1, d.before a0 Z = true) {h0 : Heap} {a r : Addr} (F : Fld Z h0 a "com/example/meterwright/meterwright/snapshot/Holding" "project" "Ljava/lang/String;" (.ref r)) :
    Does l Z n0 ⟨"com/example/meterwright/meterwright/snapshot/Holding", "project", "()Ljava/lang/String;"⟩ prog_57_method_4_code 1 (some (.object "java/lang/String")) [] { frames := 0, cells := 0, slots := 0, locals := 0 } #[(.ref a)] h0 (fun v h => v = some (.ref r) ∧ h0 = h) := by
  refine Does.start (plainFor_of_name pn_5) ?_
  intro p e s m below meth c T X
  replace X : Sd Z n0 0 prog_57_method_4_code 1 "com/example/meterwright/meterwright/snapshot/Holding" "project" (some (.object "java/lang/String")) h0 p l e { frames := 0, cells := 0, slots := 0, locals := 0 } s m #[(.ref a)] below meth c T [] 0 0 := X
  refine Wp.cast (g' := mkF m 0 #[.val (.ref a)] []) (by first | (simp [entryFrame, mkF, argsToLocals, Value.category, maxLocals]; done) | rfl) ?_
  refine w_aloadN X dprog_57_4_0 rfl (rfl) ?_
  refine w_getF X dprog_57_4_1 (host := "") (Or.inl (wd_151 hw)) Via.refl F (fun T X => ?_)
  exact w_retR X rfl (rfl) rfl dprog_57_4_4 ⟨rfl, rfl⟩ (by decide) (by decide)
set_option maxRecDepth 65536 in
set_option maxHeartbeats 40000000 in
theorem m_gh_resource {l : Launch} {Z : State} {a0 : Array Value} {n0 : Nat} (hw : ∀ d ∈ tables_1, d.before a0 Z = true) {h0 : Heap} {a r : Addr} (F : Fld Z h0 a "com/example/meterwright/meterwright/snapshot/Holding" "resource" "Ljava/lang/String;" (.ref r)) :
    Does l Z n0 ⟨"com/example/meterwright/meterwright/snapshot/Holding", "resource", "()Ljava/lang/String;"⟩ prog_57_method_5_code 1 (some (.object "java/lang/String")) [] { frames := 0, cells := 0, slots := 0, locals := 0 } #[(.ref a)] h0 (fun v h => v = some (.ref r) ∧ h0 = h) := by
  refine Does.start (plainFor_of_name pn_5) ?_
  intro p e s m below meth c T X
  replace X : Sd Z n0 0 prog_57_method_5_code 1 "com/example/meterwright/meterwright/snapshot/Holding" "resource" (some (.object "java/lang/String")) h0 p l e { frames := 0, cells := 0, slots := 0, locals := 0 } s m #[(.ref a)] below meth c T [] 0 0 := X
  refine Wp.cast (g' := mkF m 0 #[.val (.ref a)] []) (by first | (simp [entryFrame, mkF, argsToLocals, Value.category, maxLocals]; done) | rfl) ?_
  refine w_aloadN X dprog_57_5_0 rfl (rfl) ?_
  refine w_getF X dprog_57_5_1 (host := "") (Or.inl (wd_153 hw)) Via.refl F (fun T X => ?_)
  exact w_retR X rfl (rfl) rfl dprog_57_5_4 ⟨rfl, rfl⟩ (by decide) (by decide)
set_option maxRecDepth 65536 in
set_option maxHeartbeats 40000000 in
theorem m_gh_meter {l : Launch} {Z : State} {a0 : Array Value} {n0 : Nat} (hw : ∀ d ∈ tables_1, d.before a0 Z = true) {h0 : Heap} {a r : Addr} (F : Fld Z h0 a "com/example/meterwright/meterwright/snapshot/Holding" "meter" "Ljava/lang/String;" (.ref r)) :
    Does l Z n0 ⟨"com/example/meterwright/meterwright/snapshot/Holding", "meter", "()Ljava/lang/String;"⟩ prog_57_method_6_code 1 (some (.object "java/lang/String")) [] { frames := 0, cells := 0, slots := 0, locals := 0 } #[(.ref a)] h0 (fun v h => v = some (.ref r) ∧ h0 = h) := by
  refine Does.start (plainFor_of_name pn_5) ?_
  intro p e s m below meth c T X
  replace X : Sd Z n0 0 prog_57_method_6_code 1 "com/example/meterwright/meterwright/snapshot/Holding" "meter" (some (.object "java/lang/String")) h0 p l e { frames := 0, cells := 0, slots := 0, locals := 0 } s m #[(.ref a)] below meth c T [] 0 0 := X
  refine Wp.cast (g' := mkF m 0 #[.val (.ref a)] []) (by first | (simp [entryFrame, mkF, argsToLocals, Value.category, maxLocals]; done) | rfl) ?_
  refine w_aloadN X dprog_57_6_0 rfl (rfl) ?_
  refine w_getF X dprog_57_6_1 (host := "") (Or.inl (wd_155 hw)) Via.refl F (fun T X => ?_)
  exact w_retR X rfl (rfl) rfl dprog_57_6_4 ⟨rfl, rfl⟩ (by decide) (by decide)
set_option maxRecDepth 65536 in
set_option maxHeartbeats 40000000 in
theorem m_hi {l : Launch} {Z : State} {a0 : Array Value} {n0 : Nat} (hw : ∀ d ∈ tables_1, d.before a0 Z = true) {h0 : Heap} {a s1 s2 s3 s4 : Addr} (ga : n0 ≤ a) (Ea : Exa Z h0 a "com/example/meterwright/meterwright/snapshot/Holding") (F_tenant : Fld Z h0 a "com/example/meterwright/meterwright/snapshot/Holding" "tenant" "Ljava/lang/String;" .null) (F_project : Fld Z h0 a "com/example/meterwright/meterwright/snapshot/Holding" "project" "Ljava/lang/String;" .null) (F_resource : Fld Z h0 a "com/example/meterwright/meterwright/snapshot/Holding" "resource" "Ljava/lang/String;" .null) (F_meter : Fld Z h0 a "com/example/meterwright/meterwright/snapshot/Holding" "meter" "Ljava/lang/String;" .null) :
    Does l Z n0 ⟨"com/example/meterwright/meterwright/snapshot/Holding", "<init>", "(Ljava/lang/String;Ljava/lang/String;Ljava/lang/String;Ljava/lang/String;)V"⟩ prog_57_method_1_code 5 none [] { frames := 1, cells := 0, slots := 0, locals := 12 } #[(.ref a), (.ref s1), (.ref s2), (.ref s3), (.ref s4)] h0 (fun v h => v = none ∧ Exa Z h a "com/example/meterwright/meterwright/snapshot/Holding" ∧ Fld Z h a "com/example/meterwright/meterwright/snapshot/Holding" "tenant" "Ljava/lang/String;" (.ref s1) ∧ Fld Z h a "com/example/meterwright/meterwright/snapshot/Holding" "project" "Ljava/lang/String;" (.ref s2) ∧ Fld Z h a "com/example/meterwright/meterwright/snapshot/Holding" "resource" "Ljava/lang/String;" (.ref s3) ∧ Fld Z h a "com/example/meterwright/meterwright/snapshot/Holding" "meter" "Ljava/lang/String;" (.ref s4) ∧ Keep h0 h [a]) := by
  refine Does.start (plainFor_of_name pn_5) ?_
  intro p e s m below meth c T X
  replace X : Sd Z n0 0 prog_57_method_1_code 5 "com/example/meterwright/meterwright/snapshot/Holding" "<init>" none h0 p l e { frames := 1, cells := 0, slots := 0, locals := 12 } s m #[(.ref a), (.ref s1), (.ref s2), (.ref s3), (.ref s4)] below meth c T [] 0 0 := X
  refine Wp.cast (g' := mkF m 0 #[.val (.ref a), .val (.ref s1), .val (.ref s2), .val (.ref s3), .val (.ref s4)] []) (by first | (simp [entryFrame, mkF, argsToLocals, Value.category, maxLocals]; done) | rfl) ?_
  refine w_aloadN X dprog_57_1_0 rfl (rfl) ?_
  refine w_initO X dprog_57_1_1 (wd_148 hw) (wd_16 hw) (wd_17 hw) rfl (by decide) (Nat.le_of_ble_eq_true rfl) (fun T X => ?_)
  refine w_aloadN X dprog_57_1_4 rfl (rfl) ?_
  refine w_aloadN X dprog_57_1_5 rfl (rfl) ?_
  refine w_putF X dprog_57_1_6 (host := "") (Or.inl (wd_149 hw)) Via.refl F_tenant Ea (Or.inr ⟨(wd_150 hw), rfl, rfl⟩) (wd_124 hw) (ty := (.object "java/lang/String")) (by decide) rfl rfl ga (fun T h1 X W1 => ?_)
  have f1 := F_tenant.same W1
  have K2 : Keep h0 h1 [a] := (Keep.refl h0 [a]).wr W1 (Or.inl (List.mem_of_getElem? (i := 0) rfl))
  refine w_aloadN X dprog_57_1_9 rfl (rfl) ?_
  refine w_aloadN X dprog_57_1_10 rfl (rfl) ?_
  have f3 := (Ea.wr W1)
  have f4 := (F_project.other W1 (Or.inr (slot_ne (Or.inr (wd_152 hw)) (Or.inr (wd_150 hw)) (by decide) (t := (.object "java/lang/String")) (t' := (.object "java/lang/String")) (by decide) (by decide))))
  refine w_putF X dprog_57_1_11 (host := "") (Or.inl (wd_151 hw)) Via.refl f4 f3 (Or.inr ⟨(wd_152 hw), rfl, rfl⟩) (wd_124 hw) (ty := (.object "java/lang/String")) (by decide) rfl rfl ga (fun T h2 X W2 => ?_)
  have f5 := f4.same W2
  have K6 : Keep h0 h2 [a] := K2.wr W2 (Or.inl (List.mem_of_getElem? (i := 0) rfl))
  refine w_aloadN X dprog_57_1_14 rfl (rfl) ?_
  refine w_aloadN X dprog_57_1_15 rfl (rfl) ?_
  have f7 := (f3.wr W2)
  have f8 := ((F_resource.other W1 (Or.inr (slot_ne (Or.inr (wd_154 hw)) (Or.inr (wd_150 hw)) (by decide) (t := (.object "java/lang/String")) (t' := (.object "java/lang/String")) (by decide) (by decide)))).other W2 (Or.inr (slot_ne (Or.inr (wd_154 hw)) (Or.inr (wd_152 hw)) (by decide) (t := (.object "java/lang/String")) (t' := (.object "java/lang/String")) (by decide) (by decide))))
  refine w_putF X dprog_57_1_16 (host := "") (Or.inl (wd_153 hw)) Via.refl f8 f7 (Or.inr ⟨(wd_154 hw), rfl, rfl⟩) (wd_124 hw) (ty := (.object "java/lang/String")) (by decide) rfl rfl ga (fun T h3 X W3 => ?_)
  have f9 := f8.same W3
  have K10 : Keep h0 h3 [a] := K6.wr W3 (Or.inl (List.mem_of_getElem? (i := 0) rfl))
  refine w_aloadN X dprog_57_1_19 rfl (rfl) ?_
  refine w_aload X dprog_57_1_20 rfl (rfl) ?_
  have f11 := (f7.wr W3)
  have f12 := (((F_meter.other W1 (Or.inr (slot_ne (Or.inr (wd_156 hw)) (Or.inr (wd_150 hw)) (by decide) (t := (.object "java/lang/String")) (t' := (.object "java/lang/String")) (by decide) (by decide)))).other W2 (Or.inr (slot_ne (Or.inr (wd_156 hw)) (Or.inr (wd_152 hw)) (by decide) (t := (.object "java/lang/String")) (t' := (.object "java/lang/String")) (by decide) (by decide)))).other W3 (Or.inr (slot_ne (Or.inr (wd_156 hw)) (Or.inr (wd_154 hw)) (by decide) (t := (.object "java/lang/String")) (t' := (.object "java/lang/String")) (by decide) (by decide))))
  refine w_putF X dprog_57_1_22 (host := "") (Or.inl (wd_155 hw)) Via.refl f12 f11 (Or.inr ⟨(wd_156 hw), rfl, rfl⟩) (wd_124 hw) (ty := (.object "java/lang/String")) (by decide) rfl rfl ga (fun T h4 X W4 => ?_)
  have f13 := f12.same W4
  have K14 : Keep h0 h4 [a] := K10.wr W4 (Or.inl (List.mem_of_getElem? (i := 0) rfl))
  have f15 := (f11.wr W4)
  have f16 := (((f1.other W2 (Or.inr (slot_ne (Or.inr (wd_150 hw)) (Or.inr (wd_152 hw)) (by decide) (t := (.object "java/lang/String")) (t' := (.object "java/lang/String")) (by decide) (by decide)))).other W3 (Or.inr (slot_ne (Or.inr (wd_150 hw)) (Or.inr (wd_154 hw)) (by decide) (t := (.object "java/lang/String")) (t' := (.object "java/lang/String")) (by decide) (by decide)))).other W4 (Or.inr (slot_ne (Or.inr (wd_150 hw)) (Or.inr (wd_156 hw)) (by decide) (t := (.object "java/lang/String")) (t' := (.object "java/lang/String")) (by decide) (by decide))))
  have f17 := ((f5.other W3 (Or.inr (slot_ne (Or.inr (wd_152 hw)) (Or.inr (wd_154 hw)) (by decide) (t := (.object "java/lang/String")) (t' := (.object "java/lang/String")) (by decide) (by decide)))).other W4 (Or.inr (slot_ne (Or.inr (wd_152 hw)) (Or.inr (wd_156 hw)) (by decide) (t := (.object "java/lang/String")) (t' := (.object "java/lang/String")) (by decide) (by decide))))
  have f18 := (f9.other W4 (Or.inr (slot_ne (Or.inr (wd_154 hw)) (Or.inr (wd_156 hw)) (by decide) (t := (.object "java/lang/String")) (t' := (.object "java/lang/String")) (by decide) (by decide))))
  exact w_retV X dprog_57_1_25 ⟨rfl, f15, f16, f17, f18, f13, K14⟩ (by decide) (by decide)
set_option maxRecDepth 65536 in
set_option maxHeartbeats 40000000 in
theorem m_of {l : Launch} {Z : State} {a0 : Array Value} {n0 : Nat} (hw : ∀ d ∈ tables_1, d.before a0 Z = true) {h0 : Heap} {u s1 s2 s3 s4 : Addr} (Eu : Exa Z h0 u "com/example/meterwright/meterwright/usage/UsageRecord") (F_tenant : Fld Z h0 u "com/example/meterwright/meterwright/usage/UsageRecord" "tenant" "Ljava/lang/String;" (.ref s1)) (F_project : Fld Z h0 u "com/example/meterwright/meterwright/usage/UsageRecord" "project" "Ljava/lang/String;" (.ref s2)) (F_resource : Fld Z h0 u "com/example/meterwright/meterwright/usage/UsageRecord" "resource" "Ljava/lang/String;" (.ref s3)) (F_meter : Fld Z h0 u "com/example/meterwright/meterwright/usage/UsageRecord" "meter" "Ljava/lang/String;" (.ref s4)) :
    Does l Z n0 ⟨"com/example/meterwright/meterwright/snapshot/Holding", "of", "(Lcom/example/meterwright/meterwright/usage/UsageRecord;)Lcom/example/meterwright/meterwright/snapshot/Holding;"⟩ prog_57_method_2_code 1 (some (.object "com/example/meterwright/meterwright/snapshot/Holding")) [] { frames := 2, cells := 1, slots := 4, locals := 29 } #[(.ref u)] h0 (fun v h => ∃ b, v = some (.ref b) ∧ h0.size ≤ b ∧ n0 ≤ b ∧ Exa Z h b "com/example/meterwright/meterwright/snapshot/Holding" ∧ Fld Z h b "com/example/meterwright/meterwright/snapshot/Holding" "tenant" "Ljava/lang/String;" (.ref s1) ∧ Fld Z h b "com/example/meterwright/meterwright/snapshot/Holding" "project" "Ljava/lang/String;" (.ref s2) ∧ Fld Z h b "com/example/meterwright/meterwright/snapshot/Holding" "resource" "Ljava/lang/String;" (.ref s3) ∧ Fld Z h b "com/example/meterwright/meterwright/snapshot/Holding" "meter" "Ljava/lang/String;" (.ref s4) ∧ Keep h0 h []) := by
  refine Does.start (plainFor_of_name pn_5) ?_
  intro p e s m below meth c T X
  replace X : Sd Z n0 0 prog_57_method_2_code 1 "com/example/meterwright/meterwright/snapshot/Holding" "of" (some (.object "com/example/meterwright/meterwright/snapshot/Holding")) h0 p l e { frames := 2, cells := 1, slots := 4, locals := 29 } s m #[(.ref u)] below meth c T [] 0 0 := X
  refine Wp.cast (g' := mkF m 0 #[.val (.ref u)] []) (by first | (simp [entryFrame, mkF, argsToLocals, Value.category, maxLocals]; done) | rfl) ?_
  refine w_new X dprog_57_2_0 (wd_123 hw) (wd_124 hw) (wd_121 hw) (by decide) (by decide) (fun T h1 b1 g1 gn1 X E1 A1 D1 => ?_)
  have sz_b1 : h0.size ≤ b1 := Nat.le_trans (Keep.refl h0 []).1 (Nat.le_of_eq g1.symm)
  have K1 : Keep h0 h1 [] := (Keep.refl h0 []).ext E1
  refine w_dup X dprog_57_2_3 rfl ?_
  refine w_aloadN X dprog_57_2_4 rfl (rfl) ?_
  have f2 := (F_tenant.ext E1)
  have f3 := (Eu.ext E1)
  refine w_callV X dprog_57_2_5 (wd_125 hw) (wd_126 hw) (notFace_of_selects (args := #[]) (mvT X.hZ (wd_128 hw))) (wd_128 hw) (wd_127 hw) (wd_36 hw) (wd_129 hw) (by decide) f3 (argsL := []) (S := [(.ref b1), (.ref b1)]) (m_gu_tenant hw f2) pd_8 rfl rfl rfl (by decide) (Nat.le_of_ble_eq_true rfl) (by decide) (by decide) (fun T h2 v2 L2 X q2 => ?_)
  obtain ⟨rfl, rfl⟩ := q2
  show Wp p e below _ (T.setTop (mkF m 8 #[.val (.ref u)] [(.ref s1), (.ref b1), (.ref b1)]))
  refine w_aloadN X dprog_57_2_8 rfl (rfl) ?_
  have f4 := (F_project.ext E1)
  refine w_callV X dprog_57_2_9 (wd_130 hw) (wd_131 hw) (notFace_of_selects (args := #[]) (mvT X.hZ (wd_133 hw))) (wd_133 hw) (wd_132 hw) (wd_36 hw) (wd_134 hw) (by decide) f3 (argsL := []) (S := [(.ref s1), (.ref b1), (.ref b1)]) (m_gu_project hw f4) pd_8 rfl rfl rfl (by decide) (Nat.le_of_ble_eq_true rfl) (by decide) (by decide) (fun T h3 v3 L3 X q3 => ?_)
  obtain ⟨rfl, rfl⟩ := q3
  show Wp p e below _ (T.setTop (mkF m 12 #[.val (.ref u)] [(.ref s2), (.ref s1), (.ref b1), (.ref b1)]))
  refine w_aloadN X dprog_57_2_12 rfl (rfl) ?_
  have f5 := (F_resource.ext E1)
  refine w_callV X dprog_57_2_13 (wd_135 hw) (wd_136 hw) (notFace_of_selects (args := #[]) (mvT X.hZ (wd_138 hw))) (wd_138 hw) (wd_137 hw) (wd_36 hw) (wd_139 hw) (by decide) f3 (argsL := []) (S := [(.ref s2), (.ref s1), (.ref b1), (.ref b1)]) (m_gu_resource hw f5) pd_8 rfl rfl rfl (by decide) (Nat.le_of_ble_eq_true rfl) (by decide) (by decide) (fun T h4 v4 L4 X q4 => ?_)
  obtain ⟨rfl, rfl⟩ := q4
  show Wp p e below _ (T.setTop (mkF m 16 #[.val (.ref u)] [(.ref s3), (.ref s2), (.ref s1), (.ref b1), (.ref b1)]))
  refine w_aloadN X dprog_57_2_16 rfl (rfl) ?_
  have f6 := (F_meter.ext E1)
  refine w_callV X dprog_57_2_17 (wd_140 hw) (wd_141 hw) (notFace_of_selects (args := #[]) (mvT X.hZ (wd_143 hw))) (wd_143 hw) (wd_142 hw) (wd_36 hw) (wd_144 hw) (by decide) f3 (argsL := []) (S := [(.ref s3), (.ref s2), (.ref s1), (.ref b1), (.ref b1)]) (m_gu_meter hw f6) pd_8 rfl rfl rfl (by decide) (Nat.le_of_ble_eq_true rfl) (by decide) (by decide) (fun T h5 v5 L5 X q5 => ?_)
  obtain ⟨rfl, rfl⟩ := q5
  show Wp p e below _ (T.setTop (mkF m 20 #[.val (.ref u)] [(.ref s4), (.ref s3), (.ref s2), (.ref s1), (.ref b1), (.ref b1)]))
  refine w_callI X dprog_57_2_20 rfl (wd_145 hw) (wd_146 hw) (wd_121 hw) (wd_147 hw) (by decide) (argsL := [(.ref s1), (.ref s2), (.ref s3), (.ref s4)]) (S := [(.ref b1)]) (m_hi hw gn1 A1 (show Fld Z h1 b1 "com/example/meterwright/meterwright/snapshot/Holding" "tenant" "Ljava/lang/String;" .null from D1 (Or.inr (wd_150 hw)) (ty := (.object "java/lang/String")) (by decide)) (show Fld Z h1 b1 "com/example/meterwright/meterwright/snapshot/Holding" "project" "Ljava/lang/String;" .null from D1 (Or.inr (wd_152 hw)) (ty := (.object "java/lang/String")) (by decide)) (show Fld Z h1 b1 "com/example/meterwright/meterwright/snapshot/Holding" "resource" "Ljava/lang/String;" .null from D1 (Or.inr (wd_154 hw)) (ty := (.object "java/lang/String")) (by decide)) (show Fld Z h1 b1 "com/example/meterwright/meterwright/snapshot/Holding" "meter" "Ljava/lang/String;" .null from D1 (Or.inr (wd_156 hw)) (ty := (.object "java/lang/String")) (by decide))) pd_9 rfl rfl rfl (by decide) (Nat.le_of_ble_eq_true rfl) (by decide) (by decide) (fun T h6 v6 L6 X q6 => ?_)
  obtain ⟨rfl, Ex6, Ftenant6, Fproject6, Fresource6, Fmeter6, Kc6⟩ := q6
  have K7 : Keep h0 h6 [] := K1.trans Kc6 (fun x hx => by cases List.mem_singleton.mp hx; exact (Or.inr sz_b1))
  show Wp p e below _ (T.setTop (mkF m 23 #[.val (.ref u)] [(.ref b1)]))
  exact w_retR X rfl (rfl) rfl dprog_57_2_23 ⟨_, rfl, sz_b1, gn1, Ex6, Ftenant6, Fproject6, Fresource6, Fmeter6, K7⟩ (by decide) (by decide)
set_option maxRecDepth 65536 in
set_option maxHeartbeats 40000000 in
theorem m_eq {l : Launch} {Z : State} {a0 : Array Value} {n0 : Nat} (hw : ∀ d ∈ tables_1, d.before a0 Z = true) {h0 : Heap} {a : Addr}  :
    Does l Z n0 ⟨"java/lang/String", "equals", "(Ljava/lang/Object;)Z"⟩ jdk_42_method_66_code 3 (some .boolean) [] { frames := 0, cells := 0, slots := 0, locals := 0 } #[(.ref a), (.ref a)] h0 (fun v h => v = some (.int (1 : Int32)) ∧ h0 = h) := by
  refine Does.start (plainFor_of_name pn_2) ?_
  intro p e s m below meth c T X
  replace X : Sd Z n0 0 jdk_42_method_66_code 3 "java/lang/String" "equals" (some .boolean) h0 p l e { frames := 0, cells := 0, slots := 0, locals := 0 } s m #[(.ref a), (.ref a)] below meth c T [] 0 0 := X
  refine Wp.cast (g' := mkF m 0 #[.val (.ref a), .val (.ref a), .unset] []) (by first | (simp [entryFrame, mkF, argsToLocals, Value.category, maxLocals]; done) | rfl) ?_
  refine w_aloadN X djdk_42_66_0 rfl (rfl) ?_
  refine w_aloadN X djdk_42_66_1 rfl (rfl) ?_
  refine w_acmpne X (rfl) (rfl) djdk_42_66_2 (fun hc => absurd rfl hc) (fun _ => ?_)
  refine w_iconst X (1 : Int32) djdk_42_66_5 rfl ?_
  exact w_ret_boolean X (1 : Int32) (by decide) djdk_42_66_6 ⟨rfl, rfl⟩ (by decide) (by decide)
set_option maxRecDepth 65536 in
set_option maxHeartbeats 40000000 in
theorem m_c5_1 {l : Launch} {Z : State} {a0 : Array Value} {n0 : Nat} (hw : ∀ d ∈ tables_1, d.before a0 Z = true) {h0 : Heap} {a b : Addr} {c0 : Int32} (Aa : Ary Z h0 a .char [(.int c0)]) (Ab : Ary Z h0 b .byte [(.int (0 : Int32))]) (gb : n0 ≤ b) (nab : a ≠ b) (l0 : ¬ (255 : Int32) < c0) :
    Does l Z n0 ⟨"java/lang/StringUTF16", "compress", "([CI[BII)I"⟩ jdk_52_method_21_code 7 (some .int) [] { frames := 0, cells := 0, slots := 0, locals := 0 } #[(.ref a), (.int (0 : Int32)), (.ref b), (.int (0 : Int32)), (.int (1 : Int32))] h0 (fun v h => v = some (.int (1 : Int32)) ∧ Ary Z h b .byte [(.int (c0.toInt8.toInt32))] ∧ Keep h0 h [b]) := by
  refine Does.start (plainFor_of_name pn_6) ?_
  intro p e s m below meth c T X
  replace X : Sd Z n0 0 jdk_52_method_21_code 7 "java/lang/StringUTF16" "compress" (some .int) h0 p l e { frames := 0, cells := 0, slots := 0, locals := 0 } s m #[(.ref a), (.int (0 : Int32)), (.ref b), (.int (0 : Int32)), (.int (1 : Int32))] below meth c T [] 0 0 := X
  refine Wp.cast (g' := mkF m 0 #[.val (.ref a), .val (.int (0 : Int32)), .val (.ref b), .val (.int (0 : Int32)), .val (.int (1 : Int32)), .unset, .unset] []) (by first | (simp [entryFrame, mkF, argsToLocals, Value.category, maxLocals]; done) | rfl) ?_
  refine w_iconst X (0 : Int32) djdk_52_21_0 rfl ?_
  refine w_istore X #[.val (.ref a), .val (.int (0 : Int32)), .val (.ref b), .val (.int (0 : Int32)), .val (.int (1 : Int32)), .val (.int (0 : Int32)), .unset] djdk_52_21_1 rfl ?_
  refine w_iload X djdk_52_21_3 rfl ?_
  refine w_iload X djdk_52_21_5 rfl ?_
  refine w_icmpge X djdk_52_21_7 (fun hc => absurd (by decide) hc) (fun _ => ?_)
  refine w_aloadN X djdk_52_21_10 rfl (rfl) ?_
  refine w_iloadN X djdk_52_21_11 rfl ?_
  refine w_caload X djdk_52_21_12 Aa (by decide) rfl ?_
  refine w_istore X #[.val (.ref a), .val (.int (0 : Int32)), .val (.ref b), .val (.int (0 : Int32)), .val (.int (1 : Int32)), .val (.int (0 : Int32)), .val (.int c0)] djdk_52_21_13 rfl ?_
  refine w_iload X djdk_52_21_15 rfl ?_
  refine w_sipush X (255 : Int32) djdk_52_21_17 rfl ?_
  refine w_icmple X djdk_52_21_20 (fun _ => ?_) (fun hc => absurd hc l0)
  refine w_aloadN X djdk_52_21_26 rfl (rfl) ?_
  refine w_iloadN X djdk_52_21_27 rfl ?_
  refine w_iload X djdk_52_21_28 rfl ?_
  refine w_i2b X djdk_52_21_30 ?_
  refine w_bastore X djdk_52_21_31 Ab (by decide) rfl gb (.int (c0.toInt8.toInt32)) (congrArg Value.int (own_nar_b _)) [(.int (c0.toInt8.toInt32))] rfl (fun T h1 X W1 A1 => ?_)
  have K1 : Keep h0 h1 [b] := (Keep.refl h0 [b]).wr W1 (Or.inl (List.mem_of_getElem? (i := 0) rfl))
  refine w_iinc X (1 : Int32) #[.val (.ref a), .val (.int (1 : Int32)), .val (.ref b), .val (.int (0 : Int32)), .val (.int (1 : Int32)), .val (.int (0 : Int32)), .val (.int c0)] djdk_52_21_32 rfl rfl rfl ?_
  refine w_iinc X (1 : Int32) #[.val (.ref a), .val (.int (1 : Int32)), .val (.ref b), .val (.int (1 : Int32)), .val (.int (1 : Int32)), .val (.int (0 : Int32)), .val (.int c0)] djdk_52_21_35 rfl rfl rfl ?_
  refine w_iinc X (1 : Int32) #[.val (.ref a), .val (.int (1 : Int32)), .val (.ref b), .val (.int (1 : Int32)), .val (.int (1 : Int32)), .val (.int (1 : Int32)), .val (.int c0)] djdk_52_21_38 rfl rfl rfl ?_
  refine w_goto X djdk_52_21_41 ?_
  refine w_iload X djdk_52_21_3 rfl ?_
  refine w_iload X djdk_52_21_5 rfl ?_
  refine w_icmpge X djdk_52_21_7 (fun _ => ?_) (fun hc => absurd hc Int32.lt_irrefl)
  refine w_iload X djdk_52_21_44 rfl ?_
  exact w_retI X djdk_52_21_46 ⟨rfl, A1, K1⟩ (by decide) (by decide)
set_option maxRecDepth 65536 in
set_option maxHeartbeats 40000000 in
theorem m_c3_1 {l : Launch} {Z : State} {a0 : Array Value} {n0 : Nat} (hw : ∀ d ∈ tables_1, d.before a0 Z = true) {h0 : Heap} {a : Addr} {c0 : Int32} (Aa : Ary Z h0 a .char [(.int c0)]) (l0 : ¬ (255 : Int32) < c0) :
    Does l Z n0 ⟨"java/lang/StringUTF16", "compress", "([CII)[B"⟩ jdk_52_method_16_code 6 (some (.array .byte)) [] { frames := 1, cells := 1, slots := 1, locals := 18 } #[(.ref a), (.int (0 : Int32)), (.int (1 : Int32))] h0 (fun v h => ∃ t, v = some (.ref t) ∧ h0.size ≤ t ∧ n0 ≤ t ∧ Ary Z h t .byte [(.int (c0.toInt8.toInt32))] ∧ Keep h0 h []) := by
  refine Does.start (plainFor_of_name pn_6) ?_
  intro p e s m below meth c T X
  replace X : Sd Z n0 0 jdk_52_method_16_code 6 "java/lang/StringUTF16" "compress" (some (.array .byte)) h0 p l e { frames := 1, cells := 1, slots := 1, locals := 18 } s m #[(.ref a), (.int (0 : Int32)), (.int (1 : Int32))] below meth c T [] 0 0 := X
  refine Wp.cast (g' := mkF m 0 #[.val (.ref a), .val (.int (0 : Int32)), .val (.int (1 : Int32)), .unset, .unset, .unset] []) (by first | (simp [entryFrame, mkF, argsToLocals, Value.category, maxLocals]; done) | rfl) ?_
  refine w_iloadN X djdk_52_16_0 rfl ?_
  refine w_newarr X djdk_52_16_1 (wd_23 hw) 1 1 (by decide) (by decide) (by decide) (by decide) (by decide) (by decide) (fun T h1 b1 g1 gn1 X E1 A1 => ?_)
  replace A1 : Ary Z h1 b1 .byte [(.int (0 : Int32))] := A1
  have sz_b1 : h0.size ≤ b1 := Nat.le_trans (Keep.refl h0 []).1 (Nat.le_of_eq g1.symm)
  have K1 : Keep h0 h1 [] := (Keep.refl h0 []).ext E1
  refine w_astoreN X #[.val (.ref a), .val (.int (0 : Int32)), .val (.int (1 : Int32)), .val (.ref b1), .unset, .unset] djdk_52_16_3 (rfl) rfl ?_
  refine w_aloadN X djdk_52_16_4 rfl (rfl) ?_
  refine w_iloadN X djdk_52_16_5 rfl ?_
  refine w_aloadN X djdk_52_16_6 rfl (rfl) ?_
  refine w_iconst X (0 : Int32) djdk_52_16_7 rfl ?_
  refine w_iloadN X djdk_52_16_8 rfl ?_
  have f2 := (Aa.ext E1)
  refine w_callS X djdk_52_16_9 (wd_24 hw) (wd_25 hw) (wd_21 hw) (wd_26 hw) (by decide) (argsL := [(.ref a), (.int (0 : Int32)), (.ref b1), (.int (0 : Int32)), (.int (1 : Int32))]) (S := []) (m_c5_1 hw f2 A1 gn1 (Nat.ne_of_lt (Nat.lt_of_lt_of_le Aa.lt (Nat.le_of_eq g1.symm))) l0) pd_10 rfl rfl rfl (by decide) (Nat.le_of_ble_eq_true rfl) (by decide) (by decide) (fun T h2 v2 L2 X q2 => ?_)
  obtain ⟨rfl, Ac2, Kc2⟩ := q2
  have K3 : Keep h0 h2 [] := K1.trans Kc2 (fun x hx => by cases List.mem_singleton.mp hx; exact (Or.inr sz_b1))
  show Wp p e below _ (T.setTop (mkF m 12 #[.val (.ref a), .val (.int (0 : Int32)), .val (.int (1 : Int32)), .val (.ref b1), .unset, .unset] [(.int (1 : Int32))]))
  refine w_istore X #[.val (.ref a), .val (.int (0 : Int32)), .val (.int (1 : Int32)), .val (.ref b1), .val (.int (1 : Int32)), .unset] djdk_52_16_12 rfl ?_
  refine w_iload X djdk_52_16_14 rfl ?_
  refine w_iloadN X djdk_52_16_16 rfl ?_
  refine w_icmpeq X djdk_52_16_17 (fun _ => ?_) (fun hc => absurd rfl hc)
  refine w_aloadN X djdk_52_16_57 rfl (rfl) ?_
  exact w_retR X rfl (rfl) rfl djdk_52_16_58 ⟨_, rfl, sz_b1, gn1, Ac2, K3⟩ (by decide) (by decide)
set_option maxRecDepth 65536 in
set_option maxHeartbeats 40000000 in
theorem m_cfal_1 {l : Launch} {Z : State} {a0 : Array Value} {n0 : Nat} (hw : ∀ d ∈ tables_1, d.before a0 Z = true) {h0 : Heap} {a : Addr} {v0 : Value} (Aa : Ary Z h0 a .byte [v0]) :
    Does l Z n0 ⟨"java/lang/StringUTF16", "coderFromArrayLen", "([BI)B"⟩ jdk_52_method_15_code 2 (some .byte) [] { frames := 0, cells := 0, slots := 0, locals := 0 } #[(.ref a), (.int (1 : Int32))] h0 (fun v h => v = some (.int (0 : Int32)) ∧ h0 = h) := by
  refine Does.start (plainFor_of_name pn_6) ?_
  intro p e s m below meth c T X
  replace X : Sd Z n0 0 jdk_52_method_15_code 2 "java/lang/StringUTF16" "coderFromArrayLen" (some .byte) h0 p l e { frames := 0, cells := 0, slots := 0, locals := 0 } s m #[(.ref a), (.int (1 : Int32))] below meth c T [] 0 0 := X
  refine Wp.cast (g' := mkF m 0 #[.val (.ref a), .val (.int (1 : Int32))] []) (by first | (simp [entryFrame, mkF, argsToLocals, Value.category, maxLocals]; done) | rfl) ?_
  refine w_iloadN X djdk_52_15_0 rfl ?_
  refine w_aloadN X djdk_52_15_1 rfl (rfl) ?_
  refine w_arrlen X (1 : Int32) djdk_52_15_2 Aa rfl ?_
  refine w_isub X djdk_52_15_3 ?_
  refine w_bipush X (31 : Int32) djdk_52_15_4 rfl ?_
  refine w_iushr X djdk_52_15_6 ?_
  refine w_i2b X djdk_52_15_7 ?_
  exact w_ret_byte X (0 : Int32) (by decide) djdk_52_15_8 ⟨rfl, rfl⟩ (by decide) (by decide)
set_option maxRecDepth 65536 in
set_option maxHeartbeats 40000000 in
theorem m_si4_1 {l : Launch} {Z : State} {a0 : Array Value} {n0 : Nat} (hw : ∀ d ∈ tables_1, d.before a0 Z = true) {h0 : Heap} {zc : Int32} {fm : Value} {a b : Addr} {c0 : Int32} (S_zc : Sta Z Z.heap "java/lang/String" "COMPACT_STRINGS" "Z" (.int zc)) (hzc : ¬ zc = 0) (S_fm : Sta Z Z.heap "jdk/internal/util/Preconditions" "SIOOBE_FORMATTER" "Ljava/util/function/BiFunction;" fm) (hfm : fm.isRef = true) (ga : n0 ≤ a) (Ea : Exa Z h0 a "java/lang/String") (Va : Fld Z h0 a "java/lang/String" "value" "[B" .null) (Ca : Fld Z h0 a "java/lang/String" "coder" "B" (.int (0 : Int32))) (Ab : Ary Z h0 b .char [(.int c0)]) (l0 : ¬ (255 : Int32) < c0) :
    Does l Z n0 ⟨"java/lang/String", "<init>", "([CIILjava/lang/Void;)V"⟩ jdk_42_method_149_code 6 none [] { frames := 2, cells := 1, slots := 1, locals := 35 } #[(.ref a), (.ref b), (.int (0 : Int32)), (.int (1 : Int32)), .null] h0 (fun v h => v = none ∧ Exa Z h a "java/lang/String" ∧ Fld Z h a "java/lang/String" "coder" "B" (.int (0 : Int32)) ∧ Keep h0 h [a] ∧ ∃ t, h0.size ≤ t ∧ n0 ≤ t ∧ Fld Z h a "java/lang/String" "value" "[B" (.ref t) ∧ Ary Z h t .byte [(.int (c0.toInt8.toInt32))]) := by
  refine Does.start (plainFor_of_name pn_2) ?_
  intro p e s m below meth c T X
  replace X : Sd Z n0 0 jdk_42_method_149_code 6 "java/lang/String" "<init>" none h0 p l e { frames := 2, cells := 1, slots := 1, locals := 35 } s m #[(.ref a), (.ref b), (.int (0 : Int32)), (.int (1 : Int32)), .null] below meth c T [] 0 0 := X
  refine Wp.cast (g' := mkF m 0 #[.val (.ref a), .val (.ref b), .val (.int (0 : Int32)), .val (.int (1 : Int32)), .val .null, .unset] []) (by first | (simp [entryFrame, mkF, argsToLocals, Value.category, maxLocals]; done) | rfl) ?_
  refine w_aloadN X djdk_42_149_0 rfl (rfl) ?_
  refine w_initO X djdk_42_149_1 (wd_15 hw) (wd_16 hw) (wd_17 hw) rfl (by decide) (Nat.le_of_ble_eq_true rfl) (fun T X => ?_)
  refine w_iloadN X djdk_42_149_4 rfl ?_
  refine w_ifne X djdk_42_149_5 (fun _ => ?_) (fun hc => absurd hc (by decide))
  refine w_getS X djdk_42_149_27 (host := "") (Or.inl (wd_18 hw)) Via.refl (S_zc.ext X.old.2) (fun T X => ?_)
  refine w_ifeq X djdk_42_149_30 (fun hc => absurd hc hzc) (fun _ => ?_)
  refine w_aloadN X djdk_42_149_33 rfl (rfl) ?_
  refine w_iloadN X djdk_42_149_34 rfl ?_
  refine w_iloadN X djdk_42_149_35 rfl ?_
  refine w_callS X djdk_42_149_36 (wd_19 hw) (wd_20 hw) (wd_21 hw) (wd_22 hw) (by decide) (argsL := [(.ref b), (.int (0 : Int32)), (.int (1 : Int32))]) (S := []) (m_c3_1 hw Ab l0) pd_11 rfl rfl rfl (by decide) (Nat.le_of_ble_eq_true rfl) (by decide) (by decide) (fun T h1 v1 L1 X q1 => ?_)
  obtain ⟨t1, rfl, gt1, gn1, At1, Kc1⟩ := q1
  have K1 : Keep h0 h1 [a] := (Keep.refl h0 [a]).trans Kc1 (fun x hx => nomatch hx)
  have sz_t1 : h0.size ≤ t1 := Nat.le_trans (Keep.refl h0 [a]).1 gt1
  show Wp p e below _ (T.setTop (mkF m 39 #[.val (.ref a), .val (.ref b), .val (.int (0 : Int32)), .val (.int (1 : Int32)), .val .null, .unset] [(.ref t1)]))
  refine w_astore X #[.val (.ref a), .val (.ref b), .val (.int (0 : Int32)), .val (.int (1 : Int32)), .val .null, .val (.ref t1)] djdk_42_149_39 (rfl) rfl ?_
  refine w_aloadN X djdk_42_149_41 rfl (rfl) ?_
  refine w_aload X djdk_42_149_42 rfl (rfl) ?_
  refine w_iloadN X djdk_42_149_44 rfl ?_
  refine w_callS X djdk_42_149_45 (wd_27 hw) (wd_28 hw) (wd_21 hw) (wd_29 hw) (by decide) (argsL := [(.ref t1), (.int (1 : Int32))]) (S := [(.ref a)]) (m_cfal_1 hw At1) pd_12 rfl rfl rfl (by decide) (Nat.le_of_ble_eq_true rfl) (by decide) (by decide) (fun T h2 v2 L2 X q2 => ?_)
  obtain ⟨rfl, rfl⟩ := q2
  show Wp p e below _ (T.setTop (mkF m 48 #[.val (.ref a), .val (.ref b), .val (.int (0 : Int32)), .val (.int (1 : Int32)), .val .null, .val (.ref t1)] [(.int (0 : Int32)), (.ref a)]))
  have f2 := (Ea.keep Kc1)
  have f3 := (Ca.keep Kc1 (List.not_mem_nil))
  refine w_putFN X djdk_42_149_48 (wd_30 hw) Via.refl f3 f2 (Or.inr ⟨(wd_31 hw), rfl, rfl⟩) (wd_5 hw) (ty := .byte) (by decide) (.int (0 : Int32)) rfl (by decide) ga (fun T h3 X W3 => ?_)
  have f4 := f3.same W3
  have K5 : Keep h0 h3 [a] := K1.wr W3 (Or.inl (List.mem_of_getElem? (i := 0) rfl))
  refine w_aloadN X djdk_42_149_51 rfl (rfl) ?_
  refine w_aload X djdk_42_149_52 rfl (rfl) ?_
  have f6 := (f2.wr W3)
  have f7 := ((Va.keep Kc1 (List.not_mem_nil)).other W3 (Or.inr (slot_ne (Or.inr (wd_33 hw)) (Or.inr (wd_31 hw)) (by decide) (t := (.array .byte)) (t' := .byte) (by decide) (by decide))))
  refine w_putF X djdk_42_149_54 (host := "") (Or.inl (wd_32 hw)) Via.refl f7 f6 (Or.inr ⟨(wd_33 hw), rfl, rfl⟩) (wd_5 hw) (ty := (.array .byte)) (by decide) rfl rfl ga (fun T h4 X W4 => ?_)
  have f8 := f7.same W4
  have K9 : Keep h0 h4 [a] := K5.wr W4 (Or.inl (List.mem_of_getElem? (i := 0) rfl))
  have f10 := (f6.wr W4)
  have f11 := (f4.other W4 (Or.inr (slot_ne (Or.inr (wd_31 hw)) (Or.inr (wd_33 hw)) (by decide) (t := .byte) (t' := (.array .byte)) (by decide) (by decide))))
  have f12 := ((At1.other W3 (Ne.symm (Nat.ne_of_lt (Nat.lt_of_lt_of_le Ea.lt gt1)))).other W4 (Ne.symm (Nat.ne_of_lt (Nat.lt_of_lt_of_le Ea.lt gt1))))
  exact w_retV X djdk_42_149_57 ⟨rfl, f10, f11, K9, _, sz_t1, gn1, f8, f12⟩ (by decide) (by decide)
set_option maxRecDepth 65536 in
set_option maxHeartbeats 40000000 in
theorem m_si_1 {l : Launch} {Z : State} {a0 : Array Value} {n0 : Nat} (hw : ∀ d ∈ tables_1, d.before a0 Z = true) {h0 : Heap} {zc : Int32} {fm : Value} {a b : Addr} {c0 : Int32} (S_zc : Sta Z Z.heap "java/lang/String" "COMPACT_STRINGS" "Z" (.int zc)) (hzc : ¬ zc = 0) (S_fm : Sta Z Z.heap "jdk/internal/util/Preconditions" "SIOOBE_FORMATTER" "Ljava/util/function/BiFunction;" fm) (hfm : fm.isRef = true) (ga : n0 ≤ a) (Ea : Exa Z h0 a "java/lang/String") (Va : Fld Z h0 a "java/lang/String" "value" "[B" .null) (Ca : Fld Z h0 a "java/lang/String" "coder" "B" (.int (0 : Int32))) (Ab : Ary Z h0 b .char [(.int c0)]) (l0 : ¬ (255 : Int32) < c0) :
    Does l Z n0 ⟨"java/lang/String", "<init>", "([C)V"⟩ jdk_42_method_3_code 2 none [] { frames := 3, cells := 1, slots := 1, locals := 52 } #[(.ref a), (.ref b)] h0 (fun v h => v = none ∧ Exa Z h a "java/lang/String" ∧ Fld Z h a "java/lang/String" "coder" "B" (.int (0 : Int32)) ∧ Keep h0 h [a] ∧ ∃ t, h0.size ≤ t ∧ n0 ≤ t ∧ Fld Z h a "java/lang/String" "value" "[B" (.ref t) ∧ Ary Z h t .byte [(.int (c0.toInt8.toInt32))]) := by
  refine Does.start (plainFor_of_name pn_2) ?_
  intro p e s m below meth c T X
  replace X : Sd Z n0 0 jdk_42_method_3_code 2 "java/lang/String" "<init>" none h0 p l e { frames := 3, cells := 1, slots := 1, locals := 52 } s m #[(.ref a), (.ref b)] below meth c T [] 0 0 := X
  refine Wp.cast (g' := mkF m 0 #[.val (.ref a), .val (.ref b)] []) (by first | (simp [entryFrame, mkF, argsToLocals, Value.category, maxLocals]; done) | rfl) ?_
  refine w_aloadN X djdk_42_3_0 rfl (rfl) ?_
  refine w_aloadN X djdk_42_3_1 rfl (rfl) ?_
  refine w_iconst X (0 : Int32) djdk_42_3_2 rfl ?_
  refine w_aloadN X djdk_42_3_3 rfl (rfl) ?_
  refine w_arrlen X (1 : Int32) djdk_42_3_4 Ab rfl ?_
  refine w_aconstNull X djdk_42_3_5 ?_
  refine w_callI X djdk_42_3_6 rfl (wd_11 hw) (wd_12 hw) (wd_6 hw) (wd_14 hw) (by decide) (argsL := [(.ref b), (.int (0 : Int32)), (.int (1 : Int32)), .null]) (S := []) (m_si4_1 hw S_zc hzc S_fm hfm ga Ea Va Ca Ab l0) pd_13 rfl rfl rfl (by decide) (Nat.le_of_ble_eq_true rfl) (by decide) (by decide) (fun T h1 v1 L1 X q1 => ?_)
  obtain ⟨rfl, r1⟩ := q1
  show Wp p e below _ (T.setTop (mkF m 9 #[.val (.ref a), .val (.ref b)] []))
  exact w_retV X djdk_42_3_9 ⟨rfl, r1⟩ (by decide) (by decide)
set_option maxRecDepth 65536 in
set_option maxHeartbeats 40000000 in
theorem m_c5_2 {l : Launch} {Z : State} {a0 : Array Value} {n0 : Nat} (hw : ∀ d ∈ tables_1, d.before a0 Z = true) {h0 : Heap} {a b : Addr} {c0 c1 : Int32} (Aa : Ary Z h0 a .char [(.int c0), (.int c1)]) (Ab : Ary Z h0 b .byte [(.int (0 : Int32)), (.int (0 : Int32))]) (gb : n0 ≤ b) (nab : a ≠ b) (l0 : ¬ (255 : Int32) < c0) (l1 : ¬ (255 : Int32) < c1) :
    Does l Z n0 ⟨"java/lang/StringUTF16", "compress", "([CI[BII)I"⟩ jdk_52_method_21_code 7 (some .int) [] { frames := 0, cells := 0, slots := 0, locals := 0 } #[(.ref a), (.int (0 : Int32)), (.ref b), (.int (0 : Int32)), (.int (2 : Int32))] h0 (fun v h => v = some (.int (2 : Int32)) ∧ Ary Z h b .byte [(.int (c0.toInt8.toInt32)), (.int (c1.toInt8.toInt32))] ∧ Keep h0 h [b]) := by
  refine Does.start (plainFor_of_name pn_6) ?_
  intro p e s m below meth c T X
  replace X : Sd Z n0 0 jdk_52_method_21_code 7 "java/lang/StringUTF16" "compress" (some .int) h0 p l e { frames := 0, cells := 0, slots := 0, locals := 0 } s m #[(.ref a), (.int (0 : Int32)), (.ref b), (.int (0 : Int32)), (.int (2 : Int32))] below meth c T [] 0 0 := X
  refine Wp.cast (g' := mkF m 0 #[.val (.ref a), .val (.int (0 : Int32)), .val (.ref b), .val (.int (0 : Int32)), .val (.int (2 : Int32)), .unset, .unset] []) (by first | (simp [entryFrame, mkF, argsToLocals, Value.category, maxLocals]; done) | rfl) ?_
  refine w_iconst X (0 : Int32) djdk_52_21_0 rfl ?_
  refine w_istore X #[.val (.ref a), .val (.int (0 : Int32)), .val (.ref b), .val (.int (0 : Int32)), .val (.int (2 : Int32)), .val (.int (0 : Int32)), .unset] djdk_52_21_1 rfl ?_
  refine w_iload X djdk_52_21_3 rfl ?_
  refine w_iload X djdk_52_21_5 rfl ?_
  refine w_icmpge X djdk_52_21_7 (fun hc => absurd (by decide) hc) (fun _ => ?_)
  refine w_aloadN X djdk_52_21_10 rfl (rfl) ?_
  refine w_iloadN X djdk_52_21_11 rfl ?_
  refine w_caload X djdk_52_21_12 Aa (by decide) rfl ?_
  refine w_istore X #[.val (.ref a), .val (.int (0 : Int32)), .val (.ref b), .val (.int (0 : Int32)), .val (.int (2 : Int32)), .val (.int (0 : Int32)), .val (.int c0)] djdk_52_21_13 rfl ?_
  refine w_iload X djdk_52_21_15 rfl ?_
  refine w_sipush X (255 : Int32) djdk_52_21_17 rfl ?_
  refine w_icmple X djdk_52_21_20 (fun _ => ?_) (fun hc => absurd hc l0)
  refine w_aloadN X djdk_52_21_26 rfl (rfl) ?_
  refine w_iloadN X djdk_52_21_27 rfl ?_
  refine w_iload X djdk_52_21_28 rfl ?_
  refine w_i2b X djdk_52_21_30 ?_
  refine w_bastore X djdk_52_21_31 Ab (by decide) rfl gb (.int (c0.toInt8.toInt32)) (congrArg Value.int (own_nar_b _)) [(.int (c0.toInt8.toInt32)), (.int (0 : Int32))] rfl (fun T h1 X W1 A1 => ?_)
  have K1 : Keep h0 h1 [b] := (Keep.refl h0 [b]).wr W1 (Or.inl (List.mem_of_getElem? (i := 0) rfl))
  refine w_iinc X (1 : Int32) #[.val (.ref a), .val (.int (1 : Int32)), .val (.ref b), .val (.int (0 : Int32)), .val (.int (2 : Int32)), .val (.int (0 : Int32)), .val (.int c0)] djdk_52_21_32 rfl rfl rfl ?_
  refine w_iinc X (1 : Int32) #[.val (.ref a), .val (.int (1 : Int32)), .val (.ref b), .val (.int (1 : Int32)), .val (.int (2 : Int32)), .val (.int (0 : Int32)), .val (.int c0)] djdk_52_21_35 rfl rfl rfl ?_
  refine w_iinc X (1 : Int32) #[.val (.ref a), .val (.int (1 : Int32)), .val (.ref b), .val (.int (1 : Int32)), .val (.int (2 : Int32)), .val (.int (1 : Int32)), .val (.int c0)] djdk_52_21_38 rfl rfl rfl ?_
  refine w_goto X djdk_52_21_41 ?_
  refine w_iload X djdk_52_21_3 rfl ?_
  refine w_iload X djdk_52_21_5 rfl ?_
  refine w_icmpge X djdk_52_21_7 (fun hc => absurd (by decide) hc) (fun _ => ?_)
  refine w_aloadN X djdk_52_21_10 rfl (rfl) ?_
  refine w_iloadN X djdk_52_21_11 rfl ?_
  have f2 := (Aa.other W1 nab)
  refine w_caload X djdk_52_21_12 f2 (by decide) rfl ?_
  refine w_istore X #[.val (.ref a), .val (.int (1 : Int32)), .val (.ref b), .val (.int (1 : Int32)), .val (.int (2 : Int32)), .val (.int (1 : Int32)), .val (.int c1)] djdk_52_21_13 rfl ?_
  refine w_iload X djdk_52_21_15 rfl ?_
  refine w_sipush X (255 : Int32) djdk_52_21_17 rfl ?_
  refine w_icmple X djdk_52_21_20 (fun _ => ?_) (fun hc => absurd hc l1)
  refine w_aloadN X djdk_52_21_26 rfl (rfl) ?_
  refine w_iloadN X djdk_52_21_27 rfl ?_
  refine w_iload X djdk_52_21_28 rfl ?_
  refine w_i2b X djdk_52_21_30 ?_
  refine w_bastore X djdk_52_21_31 A1 (by decide) rfl gb (.int (c1.toInt8.toInt32)) (congrArg Value.int (own_nar_b _)) [(.int (c0.toInt8.toInt32)), (.int (c1.toInt8.toInt32))] rfl (fun T h2 X W2 A2 => ?_)
  have K3 : Keep h0 h2 [b] := K1.wr W2 (Or.inl (List.mem_of_getElem? (i := 0) rfl))
  refine w_iinc X (1 : Int32) #[.val (.ref a), .val (.int (2 : Int32)), .val (.ref b), .val (.int (1 : Int32)), .val (.int (2 : Int32)), .val (.int (1 : Int32)), .val (.int c1)] djdk_52_21_32 rfl rfl rfl ?_
  refine w_iinc X (1 : Int32) #[.val (.ref a), .val (.int (2 : Int32)), .val (.ref b), .val (.int (2 : Int32)), .val (.int (2 : Int32)), .val (.int (1 : Int32)), .val (.int c1)] djdk_52_21_35 rfl rfl rfl ?_
  refine w_iinc X (1 : Int32) #[.val (.ref a), .val (.int (2 : Int32)), .val (.ref b), .val (.int (2 : Int32)), .val (.int (2 : Int32)), .val (.int (2 : Int32)), .val (.int c1)] djdk_52_21_38 rfl rfl rfl ?_
  refine w_goto X djdk_52_21_41 ?_
  refine w_iload X djdk_52_21_3 rfl ?_
  refine w_iload X djdk_52_21_5 rfl ?_
  refine w_icmpge X djdk_52_21_7 (fun _ => ?_) (fun hc => absurd hc Int32.lt_irrefl)
  refine w_iload X djdk_52_21_44 rfl ?_
  exact w_retI X djdk_52_21_46 ⟨rfl, A2, K3⟩ (by decide) (by decide)
set_option maxRecDepth 65536 in
set_option maxHeartbeats 40000000 in
theorem m_c3_2 {l : Launch} {Z : State} {a0 : Array Value} {n0 : Nat} (hw : ∀ d ∈ tables_1, d.before a0 Z = true) {h0 : Heap} {a : Addr} {c0 c1 : Int32} (Aa : Ary Z h0 a .char [(.int c0), (.int c1)]) (l0 : ¬ (255 : Int32) < c0) (l1 : ¬ (255 : Int32) < c1) :
    Does l Z n0 ⟨"java/lang/StringUTF16", "compress", "([CII)[B"⟩ jdk_52_method_16_code 6 (some (.array .byte)) [] { frames := 1, cells := 1, slots := 2, locals := 18 } #[(.ref a), (.int (0 : Int32)), (.int (2 : Int32))] h0 (fun v h => ∃ t, v = some (.ref t) ∧ h0.size ≤ t ∧ n0 ≤ t ∧ Ary Z h t .byte [(.int (c0.toInt8.toInt32)), (.int (c1.toInt8.toInt32))] ∧ Keep h0 h []) := by
  refine Does.start (plainFor_of_name pn_6) ?_
  intro p e s m below meth c T X
  replace X : Sd Z n0 0 jdk_52_method_16_code 6 "java/lang/StringUTF16" "compress" (some (.array .byte)) h0 p l e { frames := 1, cells := 1, slots := 2, locals := 18 } s m #[(.ref a), (.int (0 : Int32)), (.int (2 : Int32))] below meth c T [] 0 0 := X
  refine Wp.cast (g' := mkF m 0 #[.val (.ref a), .val (.int (0 : Int32)), .val (.int (2 : Int32)), .unset, .unset, .unset] []) (by first | (simp [entryFrame, mkF, argsToLocals, Value.category, maxLocals]; done) | rfl) ?_
  refine w_iloadN X djdk_52_16_0 rfl ?_
  refine w_newarr X djdk_52_16_1 (wd_23 hw) 2 2 (by decide) (by decide) (by decide) (by decide) (by decide) (by decide) (fun T h1 b1 g1 gn1 X E1 A1 => ?_)
  replace A1 : Ary Z h1 b1 .byte [(.int (0 : Int32)), (.int (0 : Int32))] := A1
  have sz_b1 : h0.size ≤ b1 := Nat.le_trans (Keep.refl h0 []).1 (Nat.le_of_eq g1.symm)
  have K1 : Keep h0 h1 [] := (Keep.refl h0 []).ext E1
  refine w_astoreN X #[.val (.ref a), .val (.int (0 : Int32)), .val (.int (2 : Int32)), .val (.ref b1), .unset, .unset] djdk_52_16_3 (rfl) rfl ?_
  refine w_aloadN X djdk_52_16_4 rfl (rfl) ?_
  refine w_iloadN X djdk_52_16_5 rfl ?_
  refine w_aloadN X djdk_52_16_6 rfl (rfl) ?_
  refine w_iconst X (0 : Int32) djdk_52_16_7 rfl ?_
  refine w_iloadN X djdk_52_16_8 rfl ?_
  have f2 := (Aa.ext E1)
  refine w_callS X djdk_52_16_9 (wd_24 hw) (wd_25 hw) (wd_21 hw) (wd_26 hw) (by decide) (argsL := [(.ref a), (.int (0 : Int32)), (.ref b1), (.int (0 : Int32)), (.int (2 : Int32))]) (S := []) (m_c5_2 hw f2 A1 gn1 (Nat.ne_of_lt (Nat.lt_of_lt_of_le Aa.lt (Nat.le_of_eq g1.symm))) l0 l1) pd_10 rfl rfl rfl (by decide) (Nat.le_of_ble_eq_true rfl) (by decide) (by decide) (fun T h2 v2 L2 X q2 => ?_)
  obtain ⟨rfl, Ac2, Kc2⟩ := q2
  have K3 : Keep h0 h2 [] := K1.trans Kc2 (fun x hx => by cases List.mem_singleton.mp hx; exact (Or.inr sz_b1))
  show Wp p e below _ (T.setTop (mkF m 12 #[.val (.ref a), .val (.int (0 : Int32)), .val (.int (2 : Int32)), .val (.ref b1), .unset, .unset] [(.int (2 : Int32))]))
  refine w_istore X #[.val (.ref a), .val (.int (0 : Int32)), .val (.int (2 : Int32)), .val (.ref b1), .val (.int (2 : Int32)), .unset] djdk_52_16_12 rfl ?_
  refine w_iload X djdk_52_16_14 rfl ?_
  refine w_iloadN X djdk_52_16_16 rfl ?_
  refine w_icmpeq X djdk_52_16_17 (fun _ => ?_) (fun hc => absurd rfl hc)
  refine w_aloadN X djdk_52_16_57 rfl (rfl) ?_
  exact w_retR X rfl (rfl) rfl djdk_52_16_58 ⟨_, rfl, sz_b1, gn1, Ac2, K3⟩ (by decide) (by decide)
set_option maxRecDepth 65536 in
set_option maxHeartbeats 40000000 in
theorem m_cfal_2 {l : Launch} {Z : State} {a0 : Array Value} {n0 : Nat} (hw : ∀ d ∈ tables_1, d.before a0 Z = true) {h0 : Heap} {a : Addr} {v0 v1 : Value} (Aa : Ary Z h0 a .byte [v0, v1]) :
    Does l Z n0 ⟨"java/lang/StringUTF16", "coderFromArrayLen", "([BI)B"⟩ jdk_52_method_15_code 2 (some .byte) [] { frames := 0, cells := 0, slots := 0, locals := 0 } #[(.ref a), (.int (2 : Int32))] h0 (fun v h => v = some (.int (0 : Int32)) ∧ h0 = h) := by
  refine Does.start (plainFor_of_name pn_6) ?_
  intro p e s m below meth c T X
  replace X : Sd Z n0 0 jdk_52_method_15_code 2 "java/lang/StringUTF16" "coderFromArrayLen" (some .byte) h0 p l e { frames := 0, cells := 0, slots := 0, locals := 0 } s m #[(.ref a), (.int (2 : Int32))] below meth c T [] 0 0 := X
  refine Wp.cast (g' := mkF m 0 #[.val (.ref a), .val (.int (2 : Int32))] []) (by first | (simp [entryFrame, mkF, argsToLocals, Value.category, maxLocals]; done) | rfl) ?_
  refine w_iloadN X djdk_52_15_0 rfl ?_
  refine w_aloadN X djdk_52_15_1 rfl (rfl) ?_
  refine w_arrlen X (2 : Int32) djdk_52_15_2 Aa rfl ?_
  refine w_isub X djdk_52_15_3 ?_
  refine w_bipush X (31 : Int32) djdk_52_15_4 rfl ?_
  refine w_iushr X djdk_52_15_6 ?_
  refine w_i2b X djdk_52_15_7 ?_
  exact w_ret_byte X (0 : Int32) (by decide) djdk_52_15_8 ⟨rfl, rfl⟩ (by decide) (by decide)
set_option maxRecDepth 65536 in
set_option maxHeartbeats 40000000 in
theorem m_si4_2 {l : Launch} {Z : State} {a0 : Array Value} {n0 : Nat} (hw : ∀ d ∈ tables_1, d.before a0 Z = true) {h0 : Heap} {zc : Int32} {fm : Value} {a b : Addr} {c0 c1 : Int32} (S_zc : Sta Z Z.heap "java/lang/String" "COMPACT_STRINGS" "Z" (.int zc)) (hzc : ¬ zc = 0) (S_fm : Sta Z Z.heap "jdk/internal/util/Preconditions" "SIOOBE_FORMATTER" "Ljava/util/function/BiFunction;" fm) (hfm : fm.isRef = true) (ga : n0 ≤ a) (Ea : Exa Z h0 a "java/lang/String") (Va : Fld Z h0 a "java/lang/String" "value" "[B" .null) (Ca : Fld Z h0 a "java/lang/String" "coder" "B" (.int (0 : Int32))) (Ab : Ary Z h0 b .char [(.int c0), (.int c1)]) (l0 : ¬ (255 : Int32) < c0) (l1 : ¬ (255 : Int32) < c1) :
    Does l Z n0 ⟨"java/lang/String", "<init>", "([CIILjava/lang/Void;)V"⟩ jdk_42_method_149_code 6 none [] { frames := 2, cells := 1, slots := 2, locals := 35 } #[(.ref a), (.ref b), (.int (0 : Int32)), (.int (2 : Int32)), .null] h0 (fun v h => v = none ∧ Exa Z h a "java/lang/String" ∧ Fld Z h a "java/lang/String" "coder" "B" (.int (0 : Int32)) ∧ Keep h0 h [a] ∧ ∃ t, h0.size ≤ t ∧ n0 ≤ t ∧ Fld Z h a "java/lang/String" "value" "[B" (.ref t) ∧ Ary Z h t .byte [(.int (c0.toInt8.toInt32)), (.int (c1.toInt8.toInt32))]) := by
  refine Does.start (plainFor_of_name pn_2) ?_
  intro p e s m below meth c T X
  replace X : Sd Z n0 0 jdk_42_method_149_code 6 "java/lang/String" "<init>" none h0 p l e { frames := 2, cells := 1, slots := 2, locals := 35 } s m #[(.ref a), (.ref b), (.int (0 : Int32)), (.int (2 : Int32)), .null] below meth c T [] 0 0 := X
  refine Wp.cast (g' := mkF m 0 #[.val (.ref a), .val (.ref b), .val (.int (0 : Int32)), .val (.int (2 : Int32)), .val .null, .unset] []) (by first | (simp [entryFrame, mkF, argsToLocals, Value.category, maxLocals]; done) | rfl) ?_
  refine w_aloadN X djdk_42_149_0 rfl (rfl) ?_
  refine w_initO X djdk_42_149_1 (wd_15 hw) (wd_16 hw) (wd_17 hw) rfl (by decide) (Nat.le_of_ble_eq_true rfl) (fun T X => ?_)
  refine w_iloadN X djdk_42_149_4 rfl ?_
  refine w_ifne X djdk_42_149_5 (fun _ => ?_) (fun hc => absurd hc (by decide))
  refine w_getS X djdk_42_149_27 (host := "") (Or.inl (wd_18 hw)) Via.refl (S_zc.ext X.old.2) (fun T X => ?_)
  refine w_ifeq X djdk_42_149_30 (fun hc => absurd hc hzc) (fun _ => ?_)
  refine w_aloadN X djdk_42_149_33 rfl (rfl) ?_
  refine w_iloadN X djdk_42_149_34 rfl ?_
  refine w_iloadN X djdk_42_149_35 rfl ?_
  refine w_callS X djdk_42_149_36 (wd_19 hw) (wd_20 hw) (wd_21 hw) (wd_22 hw) (by decide) (argsL := [(.ref b), (.int (0 : Int32)), (.int (2 : Int32))]) (S := []) (m_c3_2 hw Ab l0 l1) pd_11 rfl rfl rfl (by decide) (Nat.le_of_ble_eq_true rfl) (by decide) (by decide) (fun T h1 v1 L1 X q1 => ?_)
  obtain ⟨t1, rfl, gt1, gn1, At1, Kc1⟩ := q1
  have K1 : Keep h0 h1 [a] := (Keep.refl h0 [a]).trans Kc1 (fun x hx => nomatch hx)
  have sz_t1 : h0.size ≤ t1 := Nat.le_trans (Keep.refl h0 [a]).1 gt1
  show Wp p e below _ (T.setTop (mkF m 39 #[.val (.ref a), .val (.ref b), .val (.int (0 : Int32)), .val (.int (2 : Int32)), .val .null, .unset] [(.ref t1)]))
  refine w_astore X #[.val (.ref a), .val (.ref b), .val (.int (0 : Int32)), .val (.int (2 : Int32)), .val .null, .val (.ref t1)] djdk_42_149_39 (rfl) rfl ?_
  refine w_aloadN X djdk_42_149_41 rfl (rfl) ?_
  refine w_aload X djdk_42_149_42 rfl (rfl) ?_
  refine w_iloadN X djdk_42_149_44 rfl ?_
  refine w_callS X djdk_42_149_45 (wd_27 hw) (wd_28 hw) (wd_21 hw) (wd_29 hw) (by decide) (argsL := [(.ref t1), (.int (2 : Int32))]) (S := [(.ref a)]) (m_cfal_2 hw At1) pd_12 rfl rfl rfl (by decide) (Nat.le_of_ble_eq_true rfl) (by decide) (by decide) (fun T h2 v2 L2 X q2 => ?_)
  obtain ⟨rfl, rfl⟩ := q2
  show Wp p e below _ (T.setTop (mkF m 48 #[.val (.ref a), .val (.ref b), .val (.int (0 : Int32)), .val (.int (2 : Int32)), .val .null, .val (.ref t1)] [(.int (0 : Int32)), (.ref a)]))
  have f2 := (Ea.keep Kc1)
  have f3 := (Ca.keep Kc1 (List.not_mem_nil))
  refine w_putFN X djdk_42_149_48 (wd_30 hw) Via.refl f3 f2 (Or.inr ⟨(wd_31 hw), rfl, rfl⟩) (wd_5 hw) (ty := .byte) (by decide) (.int (0 : Int32)) rfl (by decide) ga (fun T h3 X W3 => ?_)
  have f4 := f3.same W3
  have K5 : Keep h0 h3 [a] := K1.wr W3 (Or.inl (List.mem_of_getElem? (i := 0) rfl))
  refine w_aloadN X djdk_42_149_51 rfl (rfl) ?_
  refine w_aload X djdk_42_149_52 rfl (rfl) ?_
  have f6 := (f2.wr W3)
  have f7 := ((Va.keep Kc1 (List.not_mem_nil)).other W3 (Or.inr (slot_ne (Or.inr (wd_33 hw)) (Or.inr (wd_31 hw)) (by decide) (t := (.array .byte)) (t' := .byte) (by decide) (by decide))))
  refine w_putF X djdk_42_149_54 (host := "") (Or.inl (wd_32 hw)) Via.refl f7 f6 (Or.inr ⟨(wd_33 hw), rfl, rfl⟩) (wd_5 hw) (ty := (.array .byte)) (by decide) rfl rfl ga (fun T h4 X W4 => ?_)
  have f8 := f7.same W4
  have K9 : Keep h0 h4 [a] := K5.wr W4 (Or.inl (List.mem_of_getElem? (i := 0) rfl))
  have f10 := (f6.wr W4)
  have f11 := (f4.other W4 (Or.inr (slot_ne (Or.inr (wd_31 hw)) (Or.inr (wd_33 hw)) (by decide) (t := .byte) (t' := (.array .byte)) (by decide) (by decide))))
  have f12 := ((At1.other W3 (Ne.symm (Nat.ne_of_lt (Nat.lt_of_lt_of_le Ea.lt gt1)))).other W4 (Ne.symm (Nat.ne_of_lt (Nat.lt_of_lt_of_le Ea.lt gt1))))
  exact w_retV X djdk_42_149_57 ⟨rfl, f10, f11, K9, _, sz_t1, gn1, f8, f12⟩ (by decide) (by decide)
set_option maxRecDepth 65536 in
set_option maxHeartbeats 40000000 in
theorem m_si_2 {l : Launch} {Z : State} {a0 : Array Value} {n0 : Nat} (hw : ∀ d ∈ tables_1, d.before a0 Z = true) {h0 : Heap} {zc : Int32} {fm : Value} {a b : Addr} {c0 c1 : Int32} (S_zc : Sta Z Z.heap "java/lang/String" "COMPACT_STRINGS" "Z" (.int zc)) (hzc : ¬ zc = 0) (S_fm : Sta Z Z.heap "jdk/internal/util/Preconditions" "SIOOBE_FORMATTER" "Ljava/util/function/BiFunction;" fm) (hfm : fm.isRef = true) (ga : n0 ≤ a) (Ea : Exa Z h0 a "java/lang/String") (Va : Fld Z h0 a "java/lang/String" "value" "[B" .null) (Ca : Fld Z h0 a "java/lang/String" "coder" "B" (.int (0 : Int32))) (Ab : Ary Z h0 b .char [(.int c0), (.int c1)]) (l0 : ¬ (255 : Int32) < c0) (l1 : ¬ (255 : Int32) < c1) :
    Does l Z n0 ⟨"java/lang/String", "<init>", "([C)V"⟩ jdk_42_method_3_code 2 none [] { frames := 3, cells := 1, slots := 2, locals := 52 } #[(.ref a), (.ref b)] h0 (fun v h => v = none ∧ Exa Z h a "java/lang/String" ∧ Fld Z h a "java/lang/String" "coder" "B" (.int (0 : Int32)) ∧ Keep h0 h [a] ∧ ∃ t, h0.size ≤ t ∧ n0 ≤ t ∧ Fld Z h a "java/lang/String" "value" "[B" (.ref t) ∧ Ary Z h t .byte [(.int (c0.toInt8.toInt32)), (.int (c1.toInt8.toInt32))]) := by
  refine Does.start (plainFor_of_name pn_2) ?_
  intro p e s m below meth c T X
  replace X : Sd Z n0 0 jdk_42_method_3_code 2 "java/lang/String" "<init>" none h0 p l e { frames := 3, cells := 1, slots := 2, locals := 52 } s m #[(.ref a), (.ref b)] below meth c T [] 0 0 := X
  refine Wp.cast (g' := mkF m 0 #[.val (.ref a), .val (.ref b)] []) (by first | (simp [entryFrame, mkF, argsToLocals, Value.category, maxLocals]; done) | rfl) ?_
  refine w_aloadN X djdk_42_3_0 rfl (rfl) ?_
  refine w_aloadN X djdk_42_3_1 rfl (rfl) ?_
  refine w_iconst X (0 : Int32) djdk_42_3_2 rfl ?_
  refine w_aloadN X djdk_42_3_3 rfl (rfl) ?_
  refine w_arrlen X (2 : Int32) djdk_42_3_4 Ab rfl ?_
  refine w_aconstNull X djdk_42_3_5 ?_
  refine w_callI X djdk_42_3_6 rfl (wd_11 hw) (wd_12 hw) (wd_6 hw) (wd_14 hw) (by decide) (argsL := [(.ref b), (.int (0 : Int32)), (.int (2 : Int32)), .null]) (S := []) (m_si4_2 hw S_zc hzc S_fm hfm ga Ea Va Ca Ab l0 l1) pd_13 rfl rfl rfl (by decide) (Nat.le_of_ble_eq_true rfl) (by decide) (by decide) (fun T h1 v1 L1 X q1 => ?_)
  obtain ⟨rfl, r1⟩ := q1
  show Wp p e below _ (T.setTop (mkF m 9 #[.val (.ref a), .val (.ref b)] []))
  exact w_retV X djdk_42_3_9 ⟨rfl, r1⟩ (by decide) (by decide)
set_option maxRecDepth 65536 in
set_option maxHeartbeats 40000000 in
theorem m_name {l : Launch} {Z : State} {a0 : Array Value} {n0 : Nat} (hw : ∀ d ∈ tables_1, d.before a0 Z = true) {h0 : Heap} {zc : Int32} {fm : Value} {x0 : Int32} (S_zc : Sta Z Z.heap "java/lang/String" "COMPACT_STRINGS" "Z" (.int zc)) (hzc : ¬ zc = 0) (S_fm : Sta Z Z.heap "jdk/internal/util/Preconditions" "SIOOBE_FORMATTER" "Ljava/util/function/BiFunction;" fm) (hfm : fm.isRef = true) :
    Does l Z n0 ⟨"com/example/meterwright/meterwright/snapshot/HoldingOfPinLaw", "name", "(I)Ljava/lang/String;"⟩ method_2_code 3 (some (.object "java/lang/String")) [] { frames := 4, cells := 3, slots := 8, locals := 66 } #[(.int x0)] h0 (fun v h => ∃ (a t : Addr) (bs : List Value), v = some (.ref a) ∧ h0.size ≤ a ∧ n0 ≤ a ∧ h0.size ≤ t ∧ n0 ≤ t ∧ Exa Z h a "java/lang/String" ∧ Fld Z h a "java/lang/String" "value" "[B" (.ref t) ∧ Ary Z h t .byte bs ∧ (¬ bs.length.toInt32 = 0) ∧ Keep h0 h []) := by
  refine Does.start (plainFor_of_name pn_7) ?_
  intro p e s m below meth c T X
  replace X : Sd Z n0 0 method_2_code 3 "com/example/meterwright/meterwright/snapshot/HoldingOfPinLaw" "name" (some (.object "java/lang/String")) h0 p l e { frames := 4, cells := 3, slots := 8, locals := 66 } s m #[(.int x0)] below meth c T [] 0 0 := X
  refine Wp.cast (g' := mkF m 0 #[.val (.int x0), .unset, .unset] []) (by first | (simp [entryFrame, mkF, argsToLocals, Value.category, maxLocals]; done) | rfl) ?_
  refine w_iloadN X d2_0 rfl ?_
  refine w_sipush X (255 : Int32) d2_1 rfl ?_
  refine w_iand X d2_4 ?_
  refine w_i2c X d2_5 ?_
  refine w_istoreN X #[.val (.int x0), .val (.int ((x0 &&& (255 : Int32)).toUInt32.toUInt16.toUInt32.toInt32)), .unset] d2_6 rfl ?_
  refine w_iloadN X d2_7 rfl ?_
  refine w_bipush X (8 : Int32) d2_8 rfl ?_
  refine w_iushr X d2_10 ?_
  refine w_sipush X (255 : Int32) d2_11 rfl ?_
  refine w_iand X d2_14 ?_
  refine w_i2c X d2_15 ?_
  refine w_istoreN X #[.val (.int x0), .val (.int ((x0 &&& (255 : Int32)).toUInt32.toUInt16.toUInt32.toInt32)), .val (.int ((((x0.toUInt32 >>> ((8 : Int32) &&& 31).toUInt32).toInt32) &&& (255 : Int32)).toUInt32.toUInt16.toUInt32.toInt32))] d2_16 rfl ?_
  refine w_iloadN X d2_17 rfl ?_
  refine w_bipush X (16 : Int32) d2_18 rfl ?_
  refine w_iushr X d2_20 ?_
  refine w_iconst X (1 : Int32) d2_21 rfl ?_
  refine w_iand X d2_22 ?_
  refine w_ifne X d2_23 (fun (hc23 : ¬ (((x0.toUInt32 >>> ((16 : Int32) &&& 31).toUInt32).toInt32) &&& (1 : Int32)) = (0 : Int32)) => ?_) (fun (hc23 : (((x0.toUInt32 >>> ((16 : Int32) &&& 31).toUInt32).toInt32) &&& (1 : Int32)) = (0 : Int32)) => ?_)
  · refine w_new X d2_41 (wd_4 hw) (wd_5 hw) (wd_6 hw) (by decide) (by decide) (fun T h1 b1 g1 gn1 X E1 A1 D1 => ?_)
    have sz_b1 : h0.size ≤ b1 := Nat.le_trans (Keep.refl h0 []).1 (Nat.le_of_eq g1.symm)
    have K1 : Keep h0 h1 [] := (Keep.refl h0 []).ext E1
    refine w_dup X d2_44 rfl ?_
    refine w_iconst X (2 : Int32) d2_45 rfl ?_
    refine w_newarr X d2_46 (wd_7 hw) 2 2 (by decide) (by decide) (by decide) (by decide) (by decide) (by decide) (fun T h2 b2 g2 gn2 X E2 A2 => ?_)
    replace A2 : Ary Z h2 b2 .char [(.int (0 : Int32)), (.int (0 : Int32))] := A2
    have sz_b2 : h0.size ≤ b2 := Nat.le_trans K1.1 (Nat.le_of_eq g2.symm)
    have K2 : Keep h0 h2 [] := K1.ext E2
    refine w_dup X d2_48 rfl ?_
    refine w_iconst X (0 : Int32) d2_49 rfl ?_
    refine w_iloadN X d2_50 rfl ?_
    refine w_castore X d2_51 A2 (by decide) rfl gn2 (.int ((x0 &&& (255 : Int32)).toUInt32.toUInt16.toUInt32.toInt32)) (congrArg Value.int (own_nar_c _)) [(.int ((x0 &&& (255 : Int32)).toUInt32.toUInt16.toUInt32.toInt32)), (.int (0 : Int32))] rfl (fun T h3 X W3 A3 => ?_)
    have K3 : Keep h0 h3 [] := K2.wr W3 (Or.inr sz_b2)
    refine w_dup X d2_52 rfl ?_
    refine w_iconst X (1 : Int32) d2_53 rfl ?_
    refine w_iloadN X d2_54 rfl ?_
    refine w_castore X d2_55 A3 (by decide) rfl gn2 (.int ((((x0.toUInt32 >>> ((8 : Int32) &&& 31).toUInt32).toInt32) &&& (255 : Int32)).toUInt32.toUInt16.toUInt32.toInt32)) (congrArg Value.int (own_nar_c _)) [(.int ((x0 &&& (255 : Int32)).toUInt32.toUInt16.toUInt32.toInt32)), (.int ((((x0.toUInt32 >>> ((8 : Int32) &&& 31).toUInt32).toInt32) &&& (255 : Int32)).toUInt32.toUInt16.toUInt32.toInt32))] rfl (fun T h4 X W4 A4 => ?_)
    have K4 : Keep h0 h4 [] := K3.wr W4 (Or.inr sz_b2)
    have f5 := (((A1.ext E2).wr W3).wr W4)
    have f6 := ((((show Fld Z h1 b1 "java/lang/String" "value" "[B" .null from D1 (Or.inr (wd_33 hw)) (ty := (.array .byte)) (by decide)).ext E2).other W3 (Or.inl (Nat.ne_of_lt (Nat.lt_of_lt_of_le A1.lt (Nat.le_of_eq g2.symm))))).other W4 (Or.inl (Nat.ne_of_lt (Nat.lt_of_lt_of_le A1.lt (Nat.le_of_eq g2.symm)))))
    have f7 := ((((show Fld Z h1 b1 "java/lang/String" "coder" "B" (.int (0 : Int32)) from D1 (Or.inr (wd_31 hw)) (ty := .byte) (by decide)).ext E2).other W3 (Or.inl (Nat.ne_of_lt (Nat.lt_of_lt_of_le A1.lt (Nat.le_of_eq g2.symm))))).other W4 (Or.inl (Nat.ne_of_lt (Nat.lt_of_lt_of_le A1.lt (Nat.le_of_eq g2.symm)))))
    refine w_callI X d2_56 rfl (wd_8 hw) (wd_9 hw) (wd_6 hw) (wd_10 hw) (by decide) (argsL := [(.ref b2)]) (S := [(.ref b1)]) (m_si_2 hw S_zc hzc S_fm hfm gn1 f5 f6 f7 A4 (own_le255 _) (own_le255 _)) pd_14 rfl rfl rfl (by decide) (Nat.le_of_ble_eq_true rfl) (by decide) (by decide) (fun T h5 v5 L5 X q5 => ?_)
    obtain ⟨rfl, Ex5, Cx5, Kc5, t5, gt5, gn5, Vx5, At5⟩ := q5
    have K8 : Keep h0 h5 [] := K4.trans Kc5 (fun x hx => by cases List.mem_singleton.mp hx; exact (Or.inr sz_b1))
    have sz_t5 : h0.size ≤ t5 := Nat.le_trans K4.1 gt5
    show Wp p e below _ (T.setTop (mkF m 59 #[.val (.int x0), .val (.int ((x0 &&& (255 : Int32)).toUInt32.toUInt16.toUInt32.toInt32)), .val (.int ((((x0.toUInt32 >>> ((8 : Int32) &&& 31).toUInt32).toInt32) &&& (255 : Int32)).toUInt32.toUInt16.toUInt32.toInt32))] [(.ref b1)]))
    exact w_retR X rfl (rfl) rfl d2_59 ⟨_, _, _, rfl, sz_b1, gn1, sz_t5, gn5, Ex5, Vx5, At5, (by show ¬ _ = (0 : Int32); exact (show ¬ (2 : Nat).toInt32 = (0 : Int32) by decide)), K8⟩ (by decide) (by decide)
  · refine w_new X d2_26 (wd_4 hw) (wd_5 hw) (wd_6 hw) (by decide) (by decide) (fun T h6 b6 g6 gn6 X E6 A6 D6 => ?_)
    have sz_b6 : h0.size ≤ b6 := Nat.le_trans (Keep.refl h0 []).1 (Nat.le_of_eq g6.symm)
    have K9 : Keep h0 h6 [] := (Keep.refl h0 []).ext E6
    refine w_dup X d2_29 rfl ?_
    refine w_iconst X (1 : Int32) d2_30 rfl ?_
    refine w_newarr X d2_31 (wd_7 hw) 1 1 (by decide) (by decide) (by decide) (by decide) (by decide) (by decide) (fun T h7 b7 g7 gn7 X E7 A7 => ?_)
    replace A7 : Ary Z h7 b7 .char [(.int (0 : Int32))] := A7
    have sz_b7 : h0.size ≤ b7 := Nat.le_trans K9.1 (Nat.le_of_eq g7.symm)
    have K10 : Keep h0 h7 [] := K9.ext E7
    refine w_dup X d2_33 rfl ?_
    refine w_iconst X (0 : Int32) d2_34 rfl ?_
    refine w_iloadN X d2_35 rfl ?_
    refine w_castore X d2_36 A7 (by decide) rfl gn7 (.int ((x0 &&& (255 : Int32)).toUInt32.toUInt16.toUInt32.toInt32)) (congrArg Value.int (own_nar_c _)) [(.int ((x0 &&& (255 : Int32)).toUInt32.toUInt16.toUInt32.toInt32))] rfl (fun T h8 X W8 A8 => ?_)
    have K11 : Keep h0 h8 [] := K10.wr W8 (Or.inr sz_b7)
    have f12 := ((A6.ext E7).wr W8)
    have f13 := (((show Fld Z h6 b6 "java/lang/String" "value" "[B" .null from D6 (Or.inr (wd_33 hw)) (ty := (.array .byte)) (by decide)).ext E7).other W8 (Or.inl (Nat.ne_of_lt (Nat.lt_of_lt_of_le A6.lt (Nat.le_of_eq g7.symm)))))
    have f14 := (((show Fld Z h6 b6 "java/lang/String" "coder" "B" (.int (0 : Int32)) from D6 (Or.inr (wd_31 hw)) (ty := .byte) (by decide)).ext E7).other W8 (Or.inl (Nat.ne_of_lt (Nat.lt_of_lt_of_le A6.lt (Nat.le_of_eq g7.symm)))))
    refine w_callI X d2_37 rfl (wd_8 hw) (wd_9 hw) (wd_6 hw) (wd_10 hw) (by decide) (argsL := [(.ref b7)]) (S := [(.ref b6)]) (m_si_1 hw S_zc hzc S_fm hfm gn6 f12 f13 f14 A8 (own_le255 _)) pd_14 rfl rfl rfl (by decide) (Nat.le_of_ble_eq_true rfl) (by decide) (by decide) (fun T h9 v9 L9 X q9 => ?_)
    obtain ⟨rfl, Ex9, Cx9, Kc9, t9, gt9, gn9, Vx9, At9⟩ := q9
    have K15 : Keep h0 h9 [] := K11.trans Kc9 (fun x hx => by cases List.mem_singleton.mp hx; exact (Or.inr sz_b6))
    have sz_t9 : h0.size ≤ t9 := Nat.le_trans K11.1 gt9
    show Wp p e below _ (T.setTop (mkF m 40 #[.val (.int x0), .val (.int ((x0 &&& (255 : Int32)).toUInt32.toUInt16.toUInt32.toInt32)), .val (.int ((((x0.toUInt32 >>> ((8 : Int32) &&& 31).toUInt32).toInt32) &&& (255 : Int32)).toUInt32.toUInt16.toUInt32.toInt32))] [(.ref b6)]))
    exact w_retR X rfl (rfl) rfl d2_40 ⟨_, _, _, rfl, sz_b6, gn6, sz_t9, gn9, Ex9, Vx9, At9, (by show ¬ _ = (0 : Int32); exact (show ¬ (1 : Nat).toInt32 = (0 : Int32) by decide)), K15⟩ (by decide) (by decide)
set_option maxRecDepth 65536 in
set_option maxHeartbeats 40000000 in
theorem m_law {l : Launch} {Z : State} {a0 : Array Value} {n0 : Nat} (hw : ∀ d ∈ tables_1, d.before a0 Z = true) (hZs : Z.heap.size = n0) {zc : Int32} {fm : Value} {iM iE bz an : Addr} (q0 q1 q2 q3 q4 : Int32) (S_zc : Sta Z Z.heap "java/lang/String" "COMPACT_STRINGS" "Z" (.int zc)) (hzc : ¬ zc = 0) (S_fm : Sta Z Z.heap "jdk/internal/util/Preconditions" "SIOOBE_FORMATTER" "Ljava/util/function/BiFunction;" fm) (hfm : fm.isRef = true) (S_iM : Sta Z Z.heap "java/time/Instant" "MIN" "Ljava/time/Instant;" (.ref iM)) (E_iM : Exa Z Z.heap iM "java/time/Instant") (S_iE : Sta Z Z.heap "java/time/Instant" "EPOCH" "Ljava/time/Instant;" (.ref iE)) (E_iE : Exa Z Z.heap iE "java/time/Instant") (S_bz : Sta Z Z.heap "java/math/BigDecimal" "ZERO" "Ljava/math/BigDecimal;" (.ref bz)) (E_bz : Exa Z Z.heap bz "java/math/BigDecimal") (S_an : Sta Z Z.heap "com/example/meterwright/meterwright/usage/Attributes" "NONE" "Lcom/example/meterwright/meterwright/usage/Attributes;" (.ref an)) (E_an : Exa Z Z.heap an "com/example/meterwright/meterwright/usage/Attributes") (T_iM : Fld Z Z.heap iM "java/time/Instant" "seconds" "J" (.long (-31557014167219200 : Int64))) (T_iE : Fld Z Z.heap iE "java/time/Instant" "seconds" "J" (.long (0 : Int64))) :
    DoesL l Z n0 x code maxLocals ret tables_1 room_1 #[(.int q0), (.int q1), (.int q2), (.int q3), (.int q4)] (fun v _ => v = some (.int 1)) := by
  refine DoesL.start hZs (plainFor_of_name pn_7) ?_
  intro p e s m below meth c T X Y hsZ
  replace X : Sd Z n0 0 code 12 "com/example/meterwright/meterwright/snapshot/HoldingOfPinLaw" "law" (some .boolean) Z.heap p l e room_1 (s.setVm s.vm) m #[(.int q0), (.int q1), (.int q2), (.int q3), (.int q4)] below meth c T [] 0 0 := X
  have hs0 : s.heap.size = n0 := by rw [hsZ]; exact hZs
  have hkp : ∀ (b : Addr) (cl : Cell), Z.heap[b]? = some cl → s.heap[b]? = some cl := by rw [hsZ]; exact fun _ _ q => q
  have I0 : IB Z s.vm [] := by rw [hsZ]; exact IB.start
  refine Wp.cast (g' := mkF m 0 #[.val (.int q0), .val (.int q1), .val (.int q2), .val (.int q3), .val (.int q4), .unset, .unset, .unset, .unset, .unset, .unset, .unset] []) (by first | (simp [entryFrame, mkF, argsToLocals, Value.category, maxLocals]; done) | rfl) ?_
  refine w_iloadN X d_0 rfl ?_
  refine w_callS X d_1 (wd_0 hw) (wd_1 hw) (wd_2 hw) (wd_3 hw) (by decide) (argsL := [(.int q0)]) (S := []) (m_name hw (x0 := q0) S_zc hzc S_fm hfm) pd_15 rfl rfl rfl (by decide) (Nat.le_of_ble_eq_true rfl) (by decide) (by decide) (fun T h1 v1 L1 X q1 => ?_)
  obtain ⟨s1, ts1, bs1, rfl, gt_s1, gn_s1, gt_ts1, gn_ts1, E_s1, V_s1, A_s1, hn_s1, Kc1⟩ := q1
  show Wp p e below _ (T.setTop (mkF m 4 #[.val (.int q0), .val (.int q1), .val (.int q2), .val (.int q3), .val (.int q4), .unset, .unset, .unset, .unset, .unset, .unset, .unset] [(.ref s1)]))
  refine w_astore X #[.val (.int q0), .val (.int q1), .val (.int q2), .val (.int q3), .val (.int q4), .val (.ref s1), .unset, .unset, .unset, .unset, .unset, .unset] d_4 (rfl) rfl ?_
  refine w_iloadN X d_6 rfl ?_
  refine w_callS X d_7 (wd_0 hw) (wd_1 hw) (wd_2 hw) (wd_3 hw) (by decide) (argsL := [(.int q1)]) (S := []) (m_name hw (x0 := q1) S_zc hzc S_fm hfm) pd_15 rfl rfl rfl (by decide) (Nat.le_of_ble_eq_true rfl) (by decide) (by decide) (fun T h2 v2 L2 X q2 => ?_)
  obtain ⟨s2, ts2, bs2, rfl, gt_s2, gn_s2, gt_ts2, gn_ts2, E_s2, V_s2, A_s2, hn_s2, Kc2⟩ := q2
  show Wp p e below _ (T.setTop (mkF m 10 #[.val (.int q0), .val (.int q1), .val (.int q2), .val (.int q3), .val (.int q4), .val (.ref s1), .unset, .unset, .unset, .unset, .unset, .unset] [(.ref s2)]))
  refine w_astore X #[.val (.int q0), .val (.int q1), .val (.int q2), .val (.int q3), .val (.int q4), .val (.ref s1), .val (.ref s2), .unset, .unset, .unset, .unset, .unset] d_10 (rfl) rfl ?_
  refine w_iloadN X d_12 rfl ?_
  refine w_callS X d_13 (wd_0 hw) (wd_1 hw) (wd_2 hw) (wd_3 hw) (by decide) (argsL := [(.int q2)]) (S := []) (m_name hw (x0 := q2) S_zc hzc S_fm hfm) pd_15 rfl rfl rfl (by decide) (Nat.le_of_ble_eq_true rfl) (by decide) (by decide) (fun T h3 v3 L3 X q3 => ?_)
  obtain ⟨s3, ts3, bs3, rfl, gt_s3, gn_s3, gt_ts3, gn_ts3, E_s3, V_s3, A_s3, hn_s3, Kc3⟩ := q3
  show Wp p e below _ (T.setTop (mkF m 16 #[.val (.int q0), .val (.int q1), .val (.int q2), .val (.int q3), .val (.int q4), .val (.ref s1), .val (.ref s2), .unset, .unset, .unset, .unset, .unset] [(.ref s3)]))
  refine w_astore X #[.val (.int q0), .val (.int q1), .val (.int q2), .val (.int q3), .val (.int q4), .val (.ref s1), .val (.ref s2), .val (.ref s3), .unset, .unset, .unset, .unset] d_16 (rfl) rfl ?_
  refine w_iloadN X d_18 rfl ?_
  refine w_callS X d_19 (wd_0 hw) (wd_1 hw) (wd_2 hw) (wd_3 hw) (by decide) (argsL := [(.int q3)]) (S := []) (m_name hw (x0 := q3) S_zc hzc S_fm hfm) pd_15 rfl rfl rfl (by decide) (Nat.le_of_ble_eq_true rfl) (by decide) (by decide) (fun T h4 v4 L4 X q4 => ?_)
  obtain ⟨s4, ts4, bs4, rfl, gt_s4, gn_s4, gt_ts4, gn_ts4, E_s4, V_s4, A_s4, hn_s4, Kc4⟩ := q4
  show Wp p e below _ (T.setTop (mkF m 22 #[.val (.int q0), .val (.int q1), .val (.int q2), .val (.int q3), .val (.int q4), .val (.ref s1), .val (.ref s2), .val (.ref s3), .unset, .unset, .unset, .unset] [(.ref s4)]))
  refine w_astore X #[.val (.int q0), .val (.int q1), .val (.int q2), .val (.int q3), .val (.int q4), .val (.ref s1), .val (.ref s2), .val (.ref s3), .val (.ref s4), .unset, .unset, .unset] d_22 (rfl) rfl ?_
  refine w_iload X d_24 rfl ?_
  refine w_iconst X (1 : Int32) d_26 rfl ?_
  refine w_iand X d_27 ?_
  refine w_ifeq X d_28 (fun (hc28 : (q4 &&& (1 : Int32)) = (0 : Int32)) => ?_) (fun (hc28 : ¬ (q4 &&& (1 : Int32)) = (0 : Int32)) => ?_)
  · refine w_iconst X (0 : Int32) d_35 rfl ?_
    refine w_istore X #[.val (.int q0), .val (.int q1), .val (.int q2), .val (.int q3), .val (.int q4), .val (.ref s1), .val (.ref s2), .val (.ref s3), .val (.ref s4), .val (.int (0 : Int32)), .unset, .unset] d_36 rfl ?_
    refine w_new X d_38 (wd_34 hw) (wd_35 hw) (wd_36 hw) (by decide) (by decide) (fun T h5 b5 g5 gn5 X E5 A5 D5 => ?_)
    refine w_dup X d_41 rfl ?_
    refine w_getS X d_42 (host := "") (Or.inl (wd_37 hw)) Via.refl (S_iM.ext X.old.2) (fun T X => ?_)
    refine w_getS X d_45 (host := "") (Or.inl (wd_39 hw)) Via.refl (S_iE.ext X.old.2) (fun T X => ?_)
    refine w_aload X d_48 rfl (rfl) ?_
    refine w_aload X d_50 rfl (rfl) ?_
    refine w_aload X d_52 rfl (rfl) ?_
    refine w_aload X d_54 rfl (rfl) ?_
    refine w_getS X d_56 (host := "") (Or.inl (wd_40 hw)) Via.refl (S_bz.ext X.old.2) (fun T X => ?_)
    refine w_aconstNull X d_59 ?_
    refine w_iload X d_60 rfl ?_
    have f1 := ((((V_s1.keep Kc2 (List.not_mem_nil)).keep Kc3 (List.not_mem_nil)).keep Kc4 (List.not_mem_nil)).ext E5)
    have f2 := ((((E_s1.keep Kc2).keep Kc3).keep Kc4).ext E5)
    have f3 := ((((A_s1.keep Kc2 (List.not_mem_nil)).keep Kc3 (List.not_mem_nil)).keep Kc4 (List.not_mem_nil)).ext E5)
    have f4 := (((V_s2.keep Kc3 (List.not_mem_nil)).keep Kc4 (List.not_mem_nil)).ext E5)
    have f5 := (((E_s2.keep Kc3).keep Kc4).ext E5)
    have f6 := (((A_s2.keep Kc3 (List.not_mem_nil)).keep Kc4 (List.not_mem_nil)).ext E5)
    have f7 := ((V_s3.keep Kc4 (List.not_mem_nil)).ext E5)
    have f8 := ((E_s3.keep Kc4).ext E5)
    have f9 := ((A_s3.keep Kc4 (List.not_mem_nil)).ext E5)
    have f10 := (V_s4.ext E5)
    have f11 := (E_s4.ext E5)
    have f12 := (A_s4.ext E5)
    refine v_callI X Y d_62 rfl (wd_42 hw) (wd_43 hw) (wd_36 hw) (wd_44 hw) (by decide) (argsL := [(.ref iM), (.ref iE), (.ref s1), (.ref s2), (.ref s3), (.ref s4), (.ref bz), .null, (.int (0 : Int32))]) (S := [(.ref b5)]) (m_i9 hw S_zc hzc S_fm hfm S_iM E_iM S_iE E_iE S_bz E_bz S_an E_an T_iM T_iE f2 f1 f3 hn_s1 f5 f4 f6 hn_s2 f8 f7 f9 hn_s3 f11 f10 f12 hn_s4 gn5 A5 (show Fld Z h5 b5 "com/example/meterwright/meterwright/usage/UsageRecord" "start" "Ljava/time/Instant;" .null from D5 (Or.inl (wd_88 hw)) (ty := (.object "java/time/Instant")) (by decide)) (show Fld Z h5 b5 "com/example/meterwright/meterwright/usage/UsageRecord" "end" "Ljava/time/Instant;" .null from D5 (Or.inl (wd_90 hw)) (ty := (.object "java/time/Instant")) (by decide)) (show Fld Z h5 b5 "com/example/meterwright/meterwright/usage/UsageRecord" "tenant" "Ljava/lang/String;" .null from D5 (Or.inl (wd_92 hw)) (ty := (.object "java/lang/String")) (by decide)) (show Fld Z h5 b5 "com/example/meterwright/meterwright/usage/UsageRecord" "project" "Ljava/lang/String;" .null from D5 (Or.inl (wd_94 hw)) (ty := (.object "java/lang/String")) (by decide)) (show Fld Z h5 b5 "com/example/meterwright/meterwright/usage/UsageRecord" "resource" "Ljava/lang/String;" .null from D5 (Or.inl (wd_96 hw)) (ty := (.object "java/lang/String")) (by decide)) (show Fld Z h5 b5 "com/example/meterwright/meterwright/usage/UsageRecord" "meter" "Ljava/lang/String;" .null from D5 (Or.inl (wd_98 hw)) (ty := (.object "java/lang/String")) (by decide)) (show Fld Z h5 b5 "com/example/meterwright/meterwright/usage/UsageRecord" "quantity" "Ljava/math/BigDecimal;" .null from D5 (Or.inl (wd_107 hw)) (ty := (.object "java/math/BigDecimal")) (by decide)) (show Fld Z h5 b5 "com/example/meterwright/meterwright/usage/UsageRecord" "kind" "Lcom/example/meterwright/meterwright/pricing/MeterKind;" .null from D5 (Or.inl (wd_109 hw)) (ty := (.object "com/example/meterwright/meterwright/pricing/MeterKind")) (by decide)) (show Fld Z h5 b5 "com/example/meterwright/meterwright/usage/UsageRecord" "valid" "Z" (.int (0 : Int32)) from D5 (Or.inl (wd_111 hw)) (ty := .boolean) (by decide)) (show Fld Z h5 b5 "com/example/meterwright/meterwright/usage/UsageRecord" "attributes" "Lcom/example/meterwright/meterwright/usage/Attributes;" .null from D5 (Or.inl (wd_116 hw)) (ty := (.object "com/example/meterwright/meterwright/usage/Attributes")) (by decide)) (show Fld Z h5 b5 "com/example/meterwright/meterwright/usage/UsageRecord" "currency" "Ljava/lang/String;" .null from D5 (Or.inl (wd_118 hw)) (ty := (.object "java/lang/String")) (by decide)) (by decide)) pd_16 rfl rfl rfl (by decide) (Nat.le_of_ble_eq_true rfl) (by decide) (by decide) (fun T h6 v6 L6 u kk X Y q6 => ?_)
    obtain ⟨rfl, Ex6, Fstart6, Fend6, Ftenant6, Fproject6, Fresource6, Fmeter6, Fquantity6, Fkind6, Fvalid6, Fattributes6, Fcurrency6, Kc6⟩ := q6
    show Wp p e below _ (T.setTop (mkF m 65 #[.val (.int q0), .val (.int q1), .val (.int q2), .val (.int q3), .val (.int q4), .val (.ref s1), .val (.ref s2), .val (.ref s3), .val (.ref s4), .val (.int (0 : Int32)), .unset, .unset] [(.ref b5)]))
    refine w_astore X #[.val (.int q0), .val (.int q1), .val (.int q2), .val (.int q3), .val (.int q4), .val (.ref s1), .val (.ref s2), .val (.ref s3), .val (.ref s4), .val (.int (0 : Int32)), .val (.ref b5), .unset] d_65 (rfl) rfl ?_
    refine w_aload X d_67 rfl (rfl) ?_
    refine w_callS X d_69 (wd_119 hw) (wd_120 hw) (wd_121 hw) (wd_122 hw) (by decide) (argsL := [(.ref b5)]) (S := []) (m_of hw Ex6 Ftenant6 Fproject6 Fresource6 Fmeter6) pd_17 rfl rfl rfl (by decide) (Nat.le_of_ble_eq_true rfl) (by decide) (by decide) (fun T h7 v7 L7 X q7 => ?_)
    obtain ⟨r7, rfl, gt7, gn7, Ex7, Ftenant7, Fproject7, Fresource7, Fmeter7, Kc7⟩ := q7
    show Wp p e below _ (T.setTop (mkF m 72 #[.val (.int q0), .val (.int q1), .val (.int q2), .val (.int q3), .val (.int q4), .val (.ref s1), .val (.ref s2), .val (.ref s3), .val (.ref s4), .val (.int (0 : Int32)), .val (.ref b5), .unset] [(.ref r7)]))
    refine w_astore X #[.val (.int q0), .val (.int q1), .val (.int q2), .val (.int q3), .val (.int q4), .val (.ref s1), .val (.ref s2), .val (.ref s3), .val (.ref s4), .val (.int (0 : Int32)), .val (.ref b5), .val (.ref r7)] d_72 (rfl) rfl ?_
    refine w_aload X d_74 rfl (rfl) ?_
    refine w_getS X d_76 (host := "") (Or.inl (wd_37 hw)) Via.refl (S_iM.ext X.old.2) (fun T X => ?_)
    refine w_getS X d_79 (host := "") (Or.inl (wd_39 hw)) Via.refl (S_iE.ext X.old.2) (fun T X => ?_)
    refine w_aload X d_82 rfl (rfl) ?_
    refine w_aload X d_84 rfl (rfl) ?_
    refine w_aload X d_86 rfl (rfl) ?_
    refine w_aload X d_88 rfl (rfl) ?_
    refine w_getS X d_90 (host := "") (Or.inl (wd_40 hw)) Via.refl (S_bz.ext X.old.2) (fun T X => ?_)
    refine w_aconstNull X d_93 ?_
    refine w_iload X d_94 rfl ?_
    refine w_ifne X d_96 (fun hc => absurd rfl hc) (fun _ => ?_)
    refine w_iconst X (1 : Int32) d_99 rfl ?_
    refine w_goto X d_100 ?_
    refine w_getS X d_104 (host := "") (Or.inl (wd_157 hw)) Via.refl (S_an.ext X.old.2) (fun T X => ?_)
    refine w_aconstNull X d_107 ?_
    have f13 := ((f4.keep Kc6 (by simp only [List.mem_cons, List.not_mem_nil, or_false]; exact (Nat.ne_of_lt (Nat.lt_of_lt_of_le (Nat.lt_of_lt_of_le (Nat.lt_of_lt_of_le E_s2.lt Kc3.1) Kc4.1) (Nat.le_of_eq g5.symm))))).keep Kc7 (List.not_mem_nil))
    have f14 := ((f5.keep Kc6).keep Kc7)
    have f15 := ((f6.keep Kc6 (by simp only [List.mem_cons, List.not_mem_nil, or_false]; exact (Nat.ne_of_lt (Nat.lt_of_lt_of_le (Nat.lt_of_lt_of_le (Nat.lt_of_lt_of_le A_s2.lt Kc3.1) Kc4.1) (Nat.le_of_eq g5.symm))))).keep Kc7 (List.not_mem_nil))
    have f16 := ((f7.keep Kc6 (by simp only [List.mem_cons, List.not_mem_nil, or_false]; exact (Nat.ne_of_lt (Nat.lt_of_lt_of_le (Nat.lt_of_lt_of_le E_s3.lt Kc4.1) (Nat.le_of_eq g5.symm))))).keep Kc7 (List.not_mem_nil))
    have f17 := ((f8.keep Kc6).keep Kc7)
    have f18 := ((f9.keep Kc6 (by simp only [List.mem_cons, List.not_mem_nil, or_false]; exact (Nat.ne_of_lt (Nat.lt_of_lt_of_le (Nat.lt_of_lt_of_le A_s3.lt Kc4.1) (Nat.le_of_eq g5.symm))))).keep Kc7 (List.not_mem_nil))
    have f19 := ((f10.keep Kc6 (by simp only [List.mem_cons, List.not_mem_nil, or_false]; exact (Nat.ne_of_lt (Nat.lt_of_lt_of_le E_s4.lt (Nat.le_of_eq g5.symm))))).keep Kc7 (List.not_mem_nil))
    have f20 := ((f11.keep Kc6).keep Kc7)
    have f21 := ((f12.keep Kc6 (by simp only [List.mem_cons, List.not_mem_nil, or_false]; exact (Nat.ne_of_lt (Nat.lt_of_lt_of_le A_s4.lt (Nat.le_of_eq g5.symm))))).keep Kc7 (List.not_mem_nil))
    have f22 := ((f1.keep Kc6 (by simp only [List.mem_cons, List.not_mem_nil, or_false]; exact (Nat.ne_of_lt (Nat.lt_of_lt_of_le (Nat.lt_of_lt_of_le (Nat.lt_of_lt_of_le (Nat.lt_of_lt_of_le E_s1.lt Kc2.1) Kc3.1) Kc4.1) (Nat.le_of_eq g5.symm))))).keep Kc7 (List.not_mem_nil))
    have f23 := ((f2.keep Kc6).keep Kc7)
    have f24 := ((f3.keep Kc6 (by simp only [List.mem_cons, List.not_mem_nil, or_false]; exact (Nat.ne_of_lt (Nat.lt_of_lt_of_le (Nat.lt_of_lt_of_le (Nat.lt_of_lt_of_le (Nat.lt_of_lt_of_le A_s1.lt Kc2.1) Kc3.1) Kc4.1) (Nat.le_of_eq g5.symm))))).keep Kc7 (List.not_mem_nil))
    have f25 := (Ex6.keep Kc7)
    have f26 := (Fstart6.keep Kc7 (List.not_mem_nil))
    have f27 := (Fend6.keep Kc7 (List.not_mem_nil))
    have f28 := (Ftenant6.keep Kc7 (List.not_mem_nil))
    have f29 := (Fproject6.keep Kc7 (List.not_mem_nil))
    have f30 := (Fresource6.keep Kc7 (List.not_mem_nil))
    have f31 := (Fmeter6.keep Kc7 (List.not_mem_nil))
    have f32 := (Fquantity6.keep Kc7 (List.not_mem_nil))
    have f33 := (Fkind6.keep Kc7 (List.not_mem_nil))
    have f34 := (Fvalid6.keep Kc7 (List.not_mem_nil))
    have f35 := (Fattributes6.keep Kc7 (List.not_mem_nil))
    have f36 := (Fcurrency6.keep Kc7 (List.not_mem_nil))
    refine v_callV X Y d_108 (wd_158 hw) (wd_53 hw) (notFace_of_selects (args := #[]) (mvT X.hZ (wd_55 hw))) (wd_55 hw) (wd_54 hw) (wd_36 hw) (wd_56 hw) (by decide) f25 (argsL := [(.ref iM), (.ref iE), (.ref s2), (.ref s3), (.ref s4), (.ref s1), (.ref bz), .null, (.int (1 : Int32)), (.ref an), .null]) (S := []) (m_set hw S_zc hzc S_fm hfm S_iM E_iM S_iE E_iE S_bz E_bz S_an E_an T_iM T_iE f14 f13 f15 hn_s2 f17 f16 f18 hn_s3 f20 f19 f21 hn_s4 f23 f22 f24 hn_s1 gn5 f25 f26 f27 f28 f29 f30 f31 f32 f33 f34 f35 f36 (by decide)) pd_6 rfl rfl rfl (by decide) (Nat.le_of_ble_eq_true rfl) (by decide) (by decide) (fun T h8 v8 L8 u kk X Y q8 => ?_)
    obtain ⟨rfl, Ex8, Fstart8, Fend8, Ftenant8, Fproject8, Fresource8, Fmeter8, Fquantity8, Fkind8, Fvalid8, Fattributes8, Fcurrency8, Kc8⟩ := q8
    show Wp p e below _ (T.setTop (mkF m 111 #[.val (.int q0), .val (.int q1), .val (.int q2), .val (.int q3), .val (.int q4), .val (.ref s1), .val (.ref s2), .val (.ref s3), .val (.ref s4), .val (.int (0 : Int32)), .val (.ref b5), .val (.ref r7)] [(.ref b5)]))
    refine w_pop X d_111 rfl ?_
    refine w_aload X d_112 rfl (rfl) ?_
    have f37 := (Ftenant7.keep Kc8 (by simp only [List.mem_cons, List.not_mem_nil, or_false]; exact (Ne.symm (Nat.ne_of_lt (Nat.lt_of_lt_of_le (Nat.lt_of_lt_of_le A5.lt Kc6.1) gt7)))))
    have f38 := (Ex7.keep Kc8)
    refine w_callV X d_114 (wd_159 hw) (wd_160 hw) (notFace_of_selects (args := #[]) (mvT X.hZ (wd_162 hw))) (wd_162 hw) (wd_161 hw) (wd_121 hw) (wd_163 hw) (by decide) f38 (argsL := []) (S := []) (m_gh_tenant hw f37) pd_8 rfl rfl rfl (by decide) (Nat.le_of_ble_eq_true rfl) (by decide) (by decide) (fun T h9 v9 L9 X q9 => ?_)
    obtain ⟨rfl, rfl⟩ := q9
    show Wp p e below _ (T.setTop (mkF m 117 #[.val (.int q0), .val (.int q1), .val (.int q2), .val (.int q3), .val (.int q4), .val (.ref s1), .val (.ref s2), .val (.ref s3), .val (.ref s4), .val (.int (0 : Int32)), .val (.ref b5), .val (.ref r7)] [(.ref s1)]))
    refine w_aload X d_117 rfl (rfl) ?_
    have f39 := (f23.keep Kc8)
    refine w_callV X d_119 (wd_164 hw) (wd_165 hw) (notFace_of_selects (args := #[]) (mvT X.hZ (wd_167 hw))) (wd_167 hw) (wd_166 hw) (wd_6 hw) (wd_168 hw) (by decide) f39 (argsL := [(.ref s1)]) (S := []) (m_eq hw (a := s1)) pd_18 rfl rfl rfl (by decide) (Nat.le_of_ble_eq_true rfl) (by decide) (by decide) (fun T h10 v10 L10 X q10 => ?_)
    obtain ⟨rfl, rfl⟩ := q10
    show Wp p e below _ (T.setTop (mkF m 122 #[.val (.int q0), .val (.int q1), .val (.int q2), .val (.int q3), .val (.int q4), .val (.ref s1), .val (.ref s2), .val (.ref s3), .val (.ref s4), .val (.int (0 : Int32)), .val (.ref b5), .val (.ref r7)] [(.int (1 : Int32))]))
    refine w_ifeq X d_122 (fun hc => absurd hc (by decide)) (fun _ => ?_)
    refine w_aload X d_125 rfl (rfl) ?_
    have f40 := (Fproject7.keep Kc8 (by simp only [List.mem_cons, List.not_mem_nil, or_false]; exact (Ne.symm (Nat.ne_of_lt (Nat.lt_of_lt_of_le (Nat.lt_of_lt_of_le A5.lt Kc6.1) gt7)))))
    refine w_callV X d_127 (wd_169 hw) (wd_170 hw) (notFace_of_selects (args := #[]) (mvT X.hZ (wd_172 hw))) (wd_172 hw) (wd_171 hw) (wd_121 hw) (wd_173 hw) (by decide) f38 (argsL := []) (S := []) (m_gh_project hw f40) pd_8 rfl rfl rfl (by decide) (Nat.le_of_ble_eq_true rfl) (by decide) (by decide) (fun T h11 v11 L11 X q11 => ?_)
    obtain ⟨rfl, rfl⟩ := q11
    show Wp p e below _ (T.setTop (mkF m 130 #[.val (.int q0), .val (.int q1), .val (.int q2), .val (.int q3), .val (.int q4), .val (.ref s1), .val (.ref s2), .val (.ref s3), .val (.ref s4), .val (.int (0 : Int32)), .val (.ref b5), .val (.ref r7)] [(.ref s2)]))
    refine w_aload X d_130 rfl (rfl) ?_
    have f41 := (f14.keep Kc8)
    refine w_callV X d_132 (wd_164 hw) (wd_165 hw) (notFace_of_selects (args := #[]) (mvT X.hZ (wd_167 hw))) (wd_167 hw) (wd_166 hw) (wd_6 hw) (wd_168 hw) (by decide) f41 (argsL := [(.ref s2)]) (S := []) (m_eq hw (a := s2)) pd_18 rfl rfl rfl (by decide) (Nat.le_of_ble_eq_true rfl) (by decide) (by decide) (fun T h12 v12 L12 X q12 => ?_)
    obtain ⟨rfl, rfl⟩ := q12
    show Wp p e below _ (T.setTop (mkF m 135 #[.val (.int q0), .val (.int q1), .val (.int q2), .val (.int q3), .val (.int q4), .val (.ref s1), .val (.ref s2), .val (.ref s3), .val (.ref s4), .val (.int (0 : Int32)), .val (.ref b5), .val (.ref r7)] [(.int (1 : Int32))]))
    refine w_ifeq X d_135 (fun hc => absurd hc (by decide)) (fun _ => ?_)
    refine w_aload X d_138 rfl (rfl) ?_
    have f42 := (Fresource7.keep Kc8 (by simp only [List.mem_cons, List.not_mem_nil, or_false]; exact (Ne.symm (Nat.ne_of_lt (Nat.lt_of_lt_of_le (Nat.lt_of_lt_of_le A5.lt Kc6.1) gt7)))))
    refine w_callV X d_140 (wd_174 hw) (wd_175 hw) (notFace_of_selects (args := #[]) (mvT X.hZ (wd_177 hw))) (wd_177 hw) (wd_176 hw) (wd_121 hw) (wd_178 hw) (by decide) f38 (argsL := []) (S := []) (m_gh_resource hw f42) pd_8 rfl rfl rfl (by decide) (Nat.le_of_ble_eq_true rfl) (by decide) (by decide) (fun T h13 v13 L13 X q13 => ?_)
    obtain ⟨rfl, rfl⟩ := q13
    show Wp p e below _ (T.setTop (mkF m 143 #[.val (.int q0), .val (.int q1), .val (.int q2), .val (.int q3), .val (.int q4), .val (.ref s1), .val (.ref s2), .val (.ref s3), .val (.ref s4), .val (.int (0 : Int32)), .val (.ref b5), .val (.ref r7)] [(.ref s3)]))
    refine w_aload X d_143 rfl (rfl) ?_
    have f43 := (f17.keep Kc8)
    refine w_callV X d_145 (wd_164 hw) (wd_165 hw) (notFace_of_selects (args := #[]) (mvT X.hZ (wd_167 hw))) (wd_167 hw) (wd_166 hw) (wd_6 hw) (wd_168 hw) (by decide) f43 (argsL := [(.ref s3)]) (S := []) (m_eq hw (a := s3)) pd_18 rfl rfl rfl (by decide) (Nat.le_of_ble_eq_true rfl) (by decide) (by decide) (fun T h14 v14 L14 X q14 => ?_)
    obtain ⟨rfl, rfl⟩ := q14
    show Wp p e below _ (T.setTop (mkF m 148 #[.val (.int q0), .val (.int q1), .val (.int q2), .val (.int q3), .val (.int q4), .val (.ref s1), .val (.ref s2), .val (.ref s3), .val (.ref s4), .val (.int (0 : Int32)), .val (.ref b5), .val (.ref r7)] [(.int (1 : Int32))]))
    refine w_ifeq X d_148 (fun hc => absurd hc (by decide)) (fun _ => ?_)
    refine w_aload X d_151 rfl (rfl) ?_
    have f44 := (Fmeter7.keep Kc8 (by simp only [List.mem_cons, List.not_mem_nil, or_false]; exact (Ne.symm (Nat.ne_of_lt (Nat.lt_of_lt_of_le (Nat.lt_of_lt_of_le A5.lt Kc6.1) gt7)))))
    refine w_callV X d_153 (wd_179 hw) (wd_180 hw) (notFace_of_selects (args := #[]) (mvT X.hZ (wd_182 hw))) (wd_182 hw) (wd_181 hw) (wd_121 hw) (wd_183 hw) (by decide) f38 (argsL := []) (S := []) (m_gh_meter hw f44) pd_8 rfl rfl rfl (by decide) (Nat.le_of_ble_eq_true rfl) (by decide) (by decide) (fun T h15 v15 L15 X q15 => ?_)
    obtain ⟨rfl, rfl⟩ := q15
    show Wp p e below _ (T.setTop (mkF m 156 #[.val (.int q0), .val (.int q1), .val (.int q2), .val (.int q3), .val (.int q4), .val (.ref s1), .val (.ref s2), .val (.ref s3), .val (.ref s4), .val (.int (0 : Int32)), .val (.ref b5), .val (.ref r7)] [(.ref s4)]))
    refine w_aload X d_156 rfl (rfl) ?_
    have f45 := (f20.keep Kc8)
    refine w_callV X d_158 (wd_164 hw) (wd_165 hw) (notFace_of_selects (args := #[]) (mvT X.hZ (wd_167 hw))) (wd_167 hw) (wd_166 hw) (wd_6 hw) (wd_168 hw) (by decide) f45 (argsL := [(.ref s4)]) (S := []) (m_eq hw (a := s4)) pd_18 rfl rfl rfl (by decide) (Nat.le_of_ble_eq_true rfl) (by decide) (by decide) (fun T h16 v16 L16 X q16 => ?_)
    obtain ⟨rfl, rfl⟩ := q16
    show Wp p e below _ (T.setTop (mkF m 161 #[.val (.int q0), .val (.int q1), .val (.int q2), .val (.int q3), .val (.int q4), .val (.ref s1), .val (.ref s2), .val (.ref s3), .val (.ref s4), .val (.int (0 : Int32)), .val (.ref b5), .val (.ref r7)] [(.int (1 : Int32))]))
    refine w_ifeq X d_161 (fun hc => absurd hc (by decide)) (fun _ => ?_)
    refine w_iconst X (1 : Int32) d_164 rfl ?_
    refine w_goto X d_165 ?_
    exact v_ret_boolean X Y (1 : Int32) (by decide) d_169 rfl (by decide) (by decide)
  · refine w_iconst X (1 : Int32) d_31 rfl ?_
    refine w_goto X d_32 ?_
    refine w_istore X #[.val (.int q0), .val (.int q1), .val (.int q2), .val (.int q3), .val (.int q4), .val (.ref s1), .val (.ref s2), .val (.ref s3), .val (.ref s4), .val (.int (1 : Int32)), .unset, .unset] d_36 rfl ?_
    refine w_new X d_38 (wd_34 hw) (wd_35 hw) (wd_36 hw) (by decide) (by decide) (fun T h17 b17 g17 gn17 X E17 A17 D17 => ?_)
    refine w_dup X d_41 rfl ?_
    refine w_getS X d_42 (host := "") (Or.inl (wd_37 hw)) Via.refl (S_iM.ext X.old.2) (fun T X => ?_)
    refine w_getS X d_45 (host := "") (Or.inl (wd_39 hw)) Via.refl (S_iE.ext X.old.2) (fun T X => ?_)
    refine w_aload X d_48 rfl (rfl) ?_
    refine w_aload X d_50 rfl (rfl) ?_
    refine w_aload X d_52 rfl (rfl) ?_
    refine w_aload X d_54 rfl (rfl) ?_
    refine w_getS X d_56 (host := "") (Or.inl (wd_40 hw)) Via.refl (S_bz.ext X.old.2) (fun T X => ?_)
    refine w_aconstNull X d_59 ?_
    refine w_iload X d_60 rfl ?_
    have f46 := ((((V_s1.keep Kc2 (List.not_mem_nil)).keep Kc3 (List.not_mem_nil)).keep Kc4 (List.not_mem_nil)).ext E17)
    have f47 := ((((E_s1.keep Kc2).keep Kc3).keep Kc4).ext E17)
    have f48 := ((((A_s1.keep Kc2 (List.not_mem_nil)).keep Kc3 (List.not_mem_nil)).keep Kc4 (List.not_mem_nil)).ext E17)
    have f49 := (((V_s2.keep Kc3 (List.not_mem_nil)).keep Kc4 (List.not_mem_nil)).ext E17)
    have f50 := (((E_s2.keep Kc3).keep Kc4).ext E17)
    have f51 := (((A_s2.keep Kc3 (List.not_mem_nil)).keep Kc4 (List.not_mem_nil)).ext E17)
    have f52 := ((V_s3.keep Kc4 (List.not_mem_nil)).ext E17)
    have f53 := ((E_s3.keep Kc4).ext E17)
    have f54 := ((A_s3.keep Kc4 (List.not_mem_nil)).ext E17)
    have f55 := (V_s4.ext E17)
    have f56 := (E_s4.ext E17)
    have f57 := (A_s4.ext E17)
    refine v_callI X Y d_62 rfl (wd_42 hw) (wd_43 hw) (wd_36 hw) (wd_44 hw) (by decide) (argsL := [(.ref iM), (.ref iE), (.ref s1), (.ref s2), (.ref s3), (.ref s4), (.ref bz), .null, (.int (1 : Int32))]) (S := [(.ref b17)]) (m_i9 hw S_zc hzc S_fm hfm S_iM E_iM S_iE E_iE S_bz E_bz S_an E_an T_iM T_iE f47 f46 f48 hn_s1 f50 f49 f51 hn_s2 f53 f52 f54 hn_s3 f56 f55 f57 hn_s4 gn17 A17 (show Fld Z h17 b17 "com/example/meterwright/meterwright/usage/UsageRecord" "start" "Ljava/time/Instant;" .null from D17 (Or.inl (wd_88 hw)) (ty := (.object "java/time/Instant")) (by decide)) (show Fld Z h17 b17 "com/example/meterwright/meterwright/usage/UsageRecord" "end" "Ljava/time/Instant;" .null from D17 (Or.inl (wd_90 hw)) (ty := (.object "java/time/Instant")) (by decide)) (show Fld Z h17 b17 "com/example/meterwright/meterwright/usage/UsageRecord" "tenant" "Ljava/lang/String;" .null from D17 (Or.inl (wd_92 hw)) (ty := (.object "java/lang/String")) (by decide)) (show Fld Z h17 b17 "com/example/meterwright/meterwright/usage/UsageRecord" "project" "Ljava/lang/String;" .null from D17 (Or.inl (wd_94 hw)) (ty := (.object "java/lang/String")) (by decide)) (show Fld Z h17 b17 "com/example/meterwright/meterwright/usage/UsageRecord" "resource" "Ljava/lang/String;" .null from D17 (Or.inl (wd_96 hw)) (ty := (.object "java/lang/String")) (by decide)) (show Fld Z h17 b17 "com/example/meterwright/meterwright/usage/UsageRecord" "meter" "Ljava/lang/String;" .null from D17 (Or.inl (wd_98 hw)) (ty := (.object "java/lang/String")) (by decide)) (show Fld Z h17 b17 "com/example/meterwright/meterwright/usage/UsageRecord" "quantity" "Ljava/math/BigDecimal;" .null from D17 (Or.inl (wd_107 hw)) (ty := (.object "java/math/BigDecimal")) (by decide)) (show Fld Z h17 b17 "com/example/meterwright/meterwright/usage/UsageRecord" "kind" "Lcom/example/meterwright/meterwright/pricing/MeterKind;" .null from D17 (Or.inl (wd_109 hw)) (ty := (.object "com/example/meterwright/meterwright/pricing/MeterKind")) (by decide)) (show Fld Z h17 b17 "com/example/meterwright/meterwright/usage/UsageRecord" "valid" "Z" (.int (0 : Int32)) from D17 (Or.inl (wd_111 hw)) (ty := .boolean) (by decide)) (show Fld Z h17 b17 "com/example/meterwright/meterwright/usage/UsageRecord" "attributes" "Lcom/example/meterwright/meterwright/usage/Attributes;" .null from D17 (Or.inl (wd_116 hw)) (ty := (.object "com/example/meterwright/meterwright/usage/Attributes")) (by decide)) (show Fld Z h17 b17 "com/example/meterwright/meterwright/usage/UsageRecord" "currency" "Ljava/lang/String;" .null from D17 (Or.inl (wd_118 hw)) (ty := (.object "java/lang/String")) (by decide)) (by decide)) pd_16 rfl rfl rfl (by decide) (Nat.le_of_ble_eq_true rfl) (by decide) (by decide) (fun T h18 v18 L18 u kk X Y q18 => ?_)
    obtain ⟨rfl, Ex18, Fstart18, Fend18, Ftenant18, Fproject18, Fresource18, Fmeter18, Fquantity18, Fkind18, Fvalid18, Fattributes18, Fcurrency18, Kc18⟩ := q18
    show Wp p e below _ (T.setTop (mkF m 65 #[.val (.int q0), .val (.int q1), .val (.int q2), .val (.int q3), .val (.int q4), .val (.ref s1), .val (.ref s2), .val (.ref s3), .val (.ref s4), .val (.int (1 : Int32)), .unset, .unset] [(.ref b17)]))
    refine w_astore X #[.val (.int q0), .val (.int q1), .val (.int q2), .val (.int q3), .val (.int q4), .val (.ref s1), .val (.ref s2), .val (.ref s3), .val (.ref s4), .val (.int (1 : Int32)), .val (.ref b17), .unset] d_65 (rfl) rfl ?_
    refine w_aload X d_67 rfl (rfl) ?_
    refine w_callS X d_69 (wd_119 hw) (wd_120 hw) (wd_121 hw) (wd_122 hw) (by decide) (argsL := [(.ref b17)]) (S := []) (m_of hw Ex18 Ftenant18 Fproject18 Fresource18 Fmeter18) pd_17 rfl rfl rfl (by decide) (Nat.le_of_ble_eq_true rfl) (by decide) (by decide) (fun T h19 v19 L19 X q19 => ?_)
    obtain ⟨r19, rfl, gt19, gn19, Ex19, Ftenant19, Fproject19, Fresource19, Fmeter19, Kc19⟩ := q19
    show Wp p e below _ (T.setTop (mkF m 72 #[.val (.int q0), .val (.int q1), .val (.int q2), .val (.int q3), .val (.int q4), .val (.ref s1), .val (.ref s2), .val (.ref s3), .val (.ref s4), .val (.int (1 : Int32)), .val (.ref b17), .unset] [(.ref r19)]))
    refine w_astore X #[.val (.int q0), .val (.int q1), .val (.int q2), .val (.int q3), .val (.int q4), .val (.ref s1), .val (.ref s2), .val (.ref s3), .val (.ref s4), .val (.int (1 : Int32)), .val (.ref b17), .val (.ref r19)] d_72 (rfl) rfl ?_
    refine w_aload X d_74 rfl (rfl) ?_
    refine w_getS X d_76 (host := "") (Or.inl (wd_37 hw)) Via.refl (S_iM.ext X.old.2) (fun T X => ?_)
    refine w_getS X d_79 (host := "") (Or.inl (wd_39 hw)) Via.refl (S_iE.ext X.old.2) (fun T X => ?_)
    refine w_aload X d_82 rfl (rfl) ?_
    refine w_aload X d_84 rfl (rfl) ?_
    refine w_aload X d_86 rfl (rfl) ?_
    refine w_aload X d_88 rfl (rfl) ?_
    refine w_getS X d_90 (host := "") (Or.inl (wd_40 hw)) Via.refl (S_bz.ext X.old.2) (fun T X => ?_)
    refine w_aconstNull X d_93 ?_
    refine w_iload X d_94 rfl ?_
    refine w_ifne X d_96 (fun _ => ?_) (fun hc => absurd hc (by decide))
    refine w_iconst X (0 : Int32) d_103 rfl ?_
    refine w_getS X d_104 (host := "") (Or.inl (wd_157 hw)) Via.refl (S_an.ext X.old.2) (fun T X => ?_)
    refine w_aconstNull X d_107 ?_
    have f58 := ((f49.keep Kc18 (by simp only [List.mem_cons, List.not_mem_nil, or_false]; exact (Nat.ne_of_lt (Nat.lt_of_lt_of_le (Nat.lt_of_lt_of_le (Nat.lt_of_lt_of_le E_s2.lt Kc3.1) Kc4.1) (Nat.le_of_eq g17.symm))))).keep Kc19 (List.not_mem_nil))
    have f59 := ((f50.keep Kc18).keep Kc19)
    have f60 := ((f51.keep Kc18 (by simp only [List.mem_cons, List.not_mem_nil, or_false]; exact (Nat.ne_of_lt (Nat.lt_of_lt_of_le (Nat.lt_of_lt_of_le (Nat.lt_of_lt_of_le A_s2.lt Kc3.1) Kc4.1) (Nat.le_of_eq g17.symm))))).keep Kc19 (List.not_mem_nil))
    have f61 := ((f52.keep Kc18 (by simp only [List.mem_cons, List.not_mem_nil, or_false]; exact (Nat.ne_of_lt (Nat.lt_of_lt_of_le (Nat.lt_of_lt_of_le E_s3.lt Kc4.1) (Nat.le_of_eq g17.symm))))).keep Kc19 (List.not_mem_nil))
    have f62 := ((f53.keep Kc18).keep Kc19)
    have f63 := ((f54.keep Kc18 (by simp only [List.mem_cons, List.not_mem_nil, or_false]; exact (Nat.ne_of_lt (Nat.lt_of_lt_of_le (Nat.lt_of_lt_of_le A_s3.lt Kc4.1) (Nat.le_of_eq g17.symm))))).keep Kc19 (List.not_mem_nil))
    have f64 := ((f55.keep Kc18 (by simp only [List.mem_cons, List.not_mem_nil, or_false]; exact (Nat.ne_of_lt (Nat.lt_of_lt_of_le E_s4.lt (Nat.le_of_eq g17.symm))))).keep Kc19 (List.not_mem_nil))
    have f65 := ((f56.keep Kc18).keep Kc19)
    have f66 := ((f57.keep Kc18 (by simp only [List.mem_cons, List.not_mem_nil, or_false]; exact (Nat.ne_of_lt (Nat.lt_of_lt_of_le A_s4.lt (Nat.le_of_eq g17.symm))))).keep Kc19 (List.not_mem_nil))
    have f67 := ((f46.keep Kc18 (by simp only [List.mem_cons, List.not_mem_nil, or_false]; exact (Nat.ne_of_lt (Nat.lt_of_lt_of_le (Nat.lt_of_lt_of_le (Nat.lt_of_lt_of_le (Nat.lt_of_lt_of_le E_s1.lt Kc2.1) Kc3.1) Kc4.1) (Nat.le_of_eq g17.symm))))).keep Kc19 (List.not_mem_nil))
    have f68 := ((f47.keep Kc18).keep Kc19)
    have f69 := ((f48.keep Kc18 (by simp only [List.mem_cons, List.not_mem_nil, or_false]; exact (Nat.ne_of_lt (Nat.lt_of_lt_of_le (Nat.lt_of_lt_of_le (Nat.lt_of_lt_of_le (Nat.lt_of_lt_of_le A_s1.lt Kc2.1) Kc3.1) Kc4.1) (Nat.le_of_eq g17.symm))))).keep Kc19 (List.not_mem_nil))
    have f70 := (Ex18.keep Kc19)
    have f71 := (Fstart18.keep Kc19 (List.not_mem_nil))
    have f72 := (Fend18.keep Kc19 (List.not_mem_nil))
    have f73 := (Ftenant18.keep Kc19 (List.not_mem_nil))
    have f74 := (Fproject18.keep Kc19 (List.not_mem_nil))
    have f75 := (Fresource18.keep Kc19 (List.not_mem_nil))
    have f76 := (Fmeter18.keep Kc19 (List.not_mem_nil))
    have f77 := (Fquantity18.keep Kc19 (List.not_mem_nil))
    have f78 := (Fkind18.keep Kc19 (List.not_mem_nil))
    have f79 := (Fvalid18.keep Kc19 (List.not_mem_nil))
    have f80 := (Fattributes18.keep Kc19 (List.not_mem_nil))
    have f81 := (Fcurrency18.keep Kc19 (List.not_mem_nil))
    refine v_callV X Y d_108 (wd_158 hw) (wd_53 hw) (notFace_of_selects (args := #[]) (mvT X.hZ (wd_55 hw))) (wd_55 hw) (wd_54 hw) (wd_36 hw) (wd_56 hw) (by decide) f70 (argsL := [(.ref iM), (.ref iE), (.ref s2), (.ref s3), (.ref s4), (.ref s1), (.ref bz), .null, (.int (0 : Int32)), (.ref an), .null]) (S := []) (m_set hw S_zc hzc S_fm hfm S_iM E_iM S_iE E_iE S_bz E_bz S_an E_an T_iM T_iE f59 f58 f60 hn_s2 f62 f61 f63 hn_s3 f65 f64 f66 hn_s4 f68 f67 f69 hn_s1 gn17 f70 f71 f72 f73 f74 f75 f76 f77 f78 f79 f80 f81 (by decide)) pd_6 rfl rfl rfl (by decide) (Nat.le_of_ble_eq_true rfl) (by decide) (by decide) (fun T h20 v20 L20 u kk X Y q20 => ?_)
    obtain ⟨rfl, Ex20, Fstart20, Fend20, Ftenant20, Fproject20, Fresource20, Fmeter20, Fquantity20, Fkind20, Fvalid20, Fattributes20, Fcurrency20, Kc20⟩ := q20
    show Wp p e below _ (T.setTop (mkF m 111 #[.val (.int q0), .val (.int q1), .val (.int q2), .val (.int q3), .val (.int q4), .val (.ref s1), .val (.ref s2), .val (.ref s3), .val (.ref s4), .val (.int (1 : Int32)), .val (.ref b17), .val (.ref r19)] [(.ref b17)]))
    refine w_pop X d_111 rfl ?_
    refine w_aload X d_112 rfl (rfl) ?_
    have f82 := (Ftenant19.keep Kc20 (by simp only [List.mem_cons, List.not_mem_nil, or_false]; exact (Ne.symm (Nat.ne_of_lt (Nat.lt_of_lt_of_le (Nat.lt_of_lt_of_le A17.lt Kc18.1) gt19)))))
    have f83 := (Ex19.keep Kc20)
    refine w_callV X d_114 (wd_159 hw) (wd_160 hw) (notFace_of_selects (args := #[]) (mvT X.hZ (wd_162 hw))) (wd_162 hw) (wd_161 hw) (wd_121 hw) (wd_163 hw) (by decide) f83 (argsL := []) (S := []) (m_gh_tenant hw f82) pd_8 rfl rfl rfl (by decide) (Nat.le_of_ble_eq_true rfl) (by decide) (by decide) (fun T h21 v21 L21 X q21 => ?_)
    obtain ⟨rfl, rfl⟩ := q21
    show Wp p e below _ (T.setTop (mkF m 117 #[.val (.int q0), .val (.int q1), .val (.int q2), .val (.int q3), .val (.int q4), .val (.ref s1), .val (.ref s2), .val (.ref s3), .val (.ref s4), .val (.int (1 : Int32)), .val (.ref b17), .val (.ref r19)] [(.ref s1)]))
    refine w_aload X d_117 rfl (rfl) ?_
    have f84 := (f68.keep Kc20)
    refine w_callV X d_119 (wd_164 hw) (wd_165 hw) (notFace_of_selects (args := #[]) (mvT X.hZ (wd_167 hw))) (wd_167 hw) (wd_166 hw) (wd_6 hw) (wd_168 hw) (by decide) f84 (argsL := [(.ref s1)]) (S := []) (m_eq hw (a := s1)) pd_18 rfl rfl rfl (by decide) (Nat.le_of_ble_eq_true rfl) (by decide) (by decide) (fun T h22 v22 L22 X q22 => ?_)
    obtain ⟨rfl, rfl⟩ := q22
    show Wp p e below _ (T.setTop (mkF m 122 #[.val (.int q0), .val (.int q1), .val (.int q2), .val (.int q3), .val (.int q4), .val (.ref s1), .val (.ref s2), .val (.ref s3), .val (.ref s4), .val (.int (1 : Int32)), .val (.ref b17), .val (.ref r19)] [(.int (1 : Int32))]))
    refine w_ifeq X d_122 (fun hc => absurd hc (by decide)) (fun _ => ?_)
    refine w_aload X d_125 rfl (rfl) ?_
    have f85 := (Fproject19.keep Kc20 (by simp only [List.mem_cons, List.not_mem_nil, or_false]; exact (Ne.symm (Nat.ne_of_lt (Nat.lt_of_lt_of_le (Nat.lt_of_lt_of_le A17.lt Kc18.1) gt19)))))
    refine w_callV X d_127 (wd_169 hw) (wd_170 hw) (notFace_of_selects (args := #[]) (mvT X.hZ (wd_172 hw))) (wd_172 hw) (wd_171 hw) (wd_121 hw) (wd_173 hw) (by decide) f83 (argsL := []) (S := []) (m_gh_project hw f85) pd_8 rfl rfl rfl (by decide) (Nat.le_of_ble_eq_true rfl) (by decide) (by decide) (fun T h23 v23 L23 X q23 => ?_)
    obtain ⟨rfl, rfl⟩ := q23
    show Wp p e below _ (T.setTop (mkF m 130 #[.val (.int q0), .val (.int q1), .val (.int q2), .val (.int q3), .val (.int q4), .val (.ref s1), .val (.ref s2), .val (.ref s3), .val (.ref s4), .val (.int (1 : Int32)), .val (.ref b17), .val (.ref r19)] [(.ref s2)]))
    refine w_aload X d_130 rfl (rfl) ?_
    have f86 := (f59.keep Kc20)
    refine w_callV X d_132 (wd_164 hw) (wd_165 hw) (notFace_of_selects (args := #[]) (mvT X.hZ (wd_167 hw))) (wd_167 hw) (wd_166 hw) (wd_6 hw) (wd_168 hw) (by decide) f86 (argsL := [(.ref s2)]) (S := []) (m_eq hw (a := s2)) pd_18 rfl rfl rfl (by decide) (Nat.le_of_ble_eq_true rfl) (by decide) (by decide) (fun T h24 v24 L24 X q24 => ?_)
    obtain ⟨rfl, rfl⟩ := q24
    show Wp p e below _ (T.setTop (mkF m 135 #[.val (.int q0), .val (.int q1), .val (.int q2), .val (.int q3), .val (.int q4), .val (.ref s1), .val (.ref s2), .val (.ref s3), .val (.ref s4), .val (.int (1 : Int32)), .val (.ref b17), .val (.ref r19)] [(.int (1 : Int32))]))
    refine w_ifeq X d_135 (fun hc => absurd hc (by decide)) (fun _ => ?_)
    refine w_aload X d_138 rfl (rfl) ?_
    have f87 := (Fresource19.keep Kc20 (by simp only [List.mem_cons, List.not_mem_nil, or_false]; exact (Ne.symm (Nat.ne_of_lt (Nat.lt_of_lt_of_le (Nat.lt_of_lt_of_le A17.lt Kc18.1) gt19)))))
    refine w_callV X d_140 (wd_174 hw) (wd_175 hw) (notFace_of_selects (args := #[]) (mvT X.hZ (wd_177 hw))) (wd_177 hw) (wd_176 hw) (wd_121 hw) (wd_178 hw) (by decide) f83 (argsL := []) (S := []) (m_gh_resource hw f87) pd_8 rfl rfl rfl (by decide) (Nat.le_of_ble_eq_true rfl) (by decide) (by decide) (fun T h25 v25 L25 X q25 => ?_)
    obtain ⟨rfl, rfl⟩ := q25
    show Wp p e below _ (T.setTop (mkF m 143 #[.val (.int q0), .val (.int q1), .val (.int q2), .val (.int q3), .val (.int q4), .val (.ref s1), .val (.ref s2), .val (.ref s3), .val (.ref s4), .val (.int (1 : Int32)), .val (.ref b17), .val (.ref r19)] [(.ref s3)]))
    refine w_aload X d_143 rfl (rfl) ?_
    have f88 := (f62.keep Kc20)
    refine w_callV X d_145 (wd_164 hw) (wd_165 hw) (notFace_of_selects (args := #[]) (mvT X.hZ (wd_167 hw))) (wd_167 hw) (wd_166 hw) (wd_6 hw) (wd_168 hw) (by decide) f88 (argsL := [(.ref s3)]) (S := []) (m_eq hw (a := s3)) pd_18 rfl rfl rfl (by decide) (Nat.le_of_ble_eq_true rfl) (by decide) (by decide) (fun T h26 v26 L26 X q26 => ?_)
    obtain ⟨rfl, rfl⟩ := q26
    show Wp p e below _ (T.setTop (mkF m 148 #[.val (.int q0), .val (.int q1), .val (.int q2), .val (.int q3), .val (.int q4), .val (.ref s1), .val (.ref s2), .val (.ref s3), .val (.ref s4), .val (.int (1 : Int32)), .val (.ref b17), .val (.ref r19)] [(.int (1 : Int32))]))
    refine w_ifeq X d_148 (fun hc => absurd hc (by decide)) (fun _ => ?_)
    refine w_aload X d_151 rfl (rfl) ?_
    have f89 := (Fmeter19.keep Kc20 (by simp only [List.mem_cons, List.not_mem_nil, or_false]; exact (Ne.symm (Nat.ne_of_lt (Nat.lt_of_lt_of_le (Nat.lt_of_lt_of_le A17.lt Kc18.1) gt19)))))
    refine w_callV X d_153 (wd_179 hw) (wd_180 hw) (notFace_of_selects (args := #[]) (mvT X.hZ (wd_182 hw))) (wd_182 hw) (wd_181 hw) (wd_121 hw) (wd_183 hw) (by decide) f83 (argsL := []) (S := []) (m_gh_meter hw f89) pd_8 rfl rfl rfl (by decide) (Nat.le_of_ble_eq_true rfl) (by decide) (by decide) (fun T h27 v27 L27 X q27 => ?_)
    obtain ⟨rfl, rfl⟩ := q27
    show Wp p e below _ (T.setTop (mkF m 156 #[.val (.int q0), .val (.int q1), .val (.int q2), .val (.int q3), .val (.int q4), .val (.ref s1), .val (.ref s2), .val (.ref s3), .val (.ref s4), .val (.int (1 : Int32)), .val (.ref b17), .val (.ref r19)] [(.ref s4)]))
    refine w_aload X d_156 rfl (rfl) ?_
    have f90 := (f65.keep Kc20)
    refine w_callV X d_158 (wd_164 hw) (wd_165 hw) (notFace_of_selects (args := #[]) (mvT X.hZ (wd_167 hw))) (wd_167 hw) (wd_166 hw) (wd_6 hw) (wd_168 hw) (by decide) f90 (argsL := [(.ref s4)]) (S := []) (m_eq hw (a := s4)) pd_18 rfl rfl rfl (by decide) (Nat.le_of_ble_eq_true rfl) (by decide) (by decide) (fun T h28 v28 L28 X q28 => ?_)
    obtain ⟨rfl, rfl⟩ := q28
    show Wp p e below _ (T.setTop (mkF m 161 #[.val (.int q0), .val (.int q1), .val (.int q2), .val (.int q3), .val (.int q4), .val (.ref s1), .val (.ref s2), .val (.ref s3), .val (.ref s4), .val (.int (1 : Int32)), .val (.ref b17), .val (.ref r19)] [(.int (1 : Int32))]))
    refine w_ifeq X d_161 (fun hc => absurd hc (by decide)) (fun _ => ?_)
    refine w_iconst X (1 : Int32) d_164 rfl ?_
    refine w_goto X d_165 ?_
    exact v_ret_boolean X Y (1 : Int32) (by decide) d_169 rfl (by decide) (by decide)
set_option maxRecDepth 65536 in
set_option maxHeartbeats 40000000 in
theorem comes_1 {Post : Tables → Env → Array Value → State → Outcome → State → Prop} (hpost : ∀ tb e args s v u, (limb_1_1.after args s (.returned v) u = true ∧ limb_1_2.after args s (.returned v) u = true ∧ True) → ReturnedEndW s (.returned v) u (Jvm.fieldLocs frame_1_writes args s ++ Jvm.arrayLocs frame_1_arrays args s ++ Jvm.staticLocs frame_1_statics s) 48 6336 → Post tb e args s (.returned v) u) :
    ArmFor flags0 classFile x code maxLocals ret World_1 tables_1 room_1 Calls_1 rest_1 Pre_1 Post := by
  intro l hfl _ _ p e ha hc hk s m args below hf hA hF happ hP
  obtain ⟨hcalls, hrest, hpre⟩ := hP
  obtain ⟨-, -, -, hnamed, -, -, -, hat⟩ := (Spec.applies_iff hf).mp happ
  obtain ⟨hg, hn⟩ := and_e (Cond.before_iff.mp (show (Jvm.Cond.and given_1 narrow_1).before args s = true from hpre))
  obtain ⟨hcount, hg1⟩ := and_e hg
  obtain ⟨ha0, hg2⟩ := and_e hg1
  obtain ⟨ha1, hg3⟩ := and_e hg2
  obtain ⟨ha2, hg4⟩ := and_e hg3
  obtain ⟨ha3, hg5⟩ := and_e hg4
  have ha4 := hg5
  obtain ⟨w0, w1, w2, w3, w4, rfl⟩ : ∃ w0 w1 w2 w3 w4 : Value, args = #[w0, w1, w2, w3, w4] := by
    have hs : args.size = 5 := by simpa [Cond.value, given_1] using hcount
    obtain ⟨L⟩ := args
    match L, hs with
    | [w0, w1, w2, w3, w4], _ => exact ⟨w0, w1, w2, w3, w4, rfl⟩
  have hw := fun d (hd : d ∈ tables_1) => atoms_spec (ws := Jvm.Cond.code x code maxLocals ret :: tables_1) hat d (List.mem_cons_of_mem _ hd)
  have hfit : Fit s := fun {y c} hc i hi => by
    obtain ⟨ha, rfl⟩ := Array.getElem?_eq_some_iff.mp hc
    have q := List.all_eq_true.mp ((Array.all_eq_true_iff_forall_mem.mp hF) _ (Array.getElem_mem ha)) i (List.mem_range.mpr hi)
    simpa [Array.getElem?_eq_getElem hi] using q
  obtain ⟨hsets, hown0⟩ := atoms_of _ (rest_1_c_eq ▸ (show rest_1_c.before _ s = true from hrest))
  have hr0 := Cond.before_iff.mp hown0
  obtain ⟨i0, ei0⟩ := is_v ha0
  obtain rfl : w0 = (.int i0) := Option.some.inj ei0
  obtain ⟨i1, ei1⟩ := is_v ha1
  obtain rfl : w1 = (.int i1) := Option.some.inj ei1
  obtain ⟨i2, ei2⟩ := is_v ha2
  obtain rfl : w2 = (.int i2) := Option.some.inj ei2
  obtain ⟨i3, ei3⟩ := is_v ha3
  obtain rfl : w3 = (.int i3) := Option.some.inj ei3
  obtain ⟨i4, ei4⟩ := is_v ha4
  obtain rfl : w4 = (.int i4) := Option.some.inj ei4
  obtain ⟨zc, ezc⟩ := is_v (Cond.before_iff.mp (hsets _ (List.mem_of_getElem? (i := 1) rfl)))
  have S_zc : Sta s s.heap "java/lang/String" "COMPACT_STRINGS" "Z" (.int zc) := Sta.start ezc (Or.inl (hsets _ (List.mem_of_getElem? (i := 0) rfl)))
  have hcw : Jvm.Lit.compactW.before _ s = true := (hsets _ (List.mem_of_getElem? (i := 2) rfl))
  have hzc : ¬ zc = 0 := gotF (own_eqI ezc rfl) (not_v (Cond.before_iff.mp hcw))
  obtain ⟨fm, efm, hfm⟩ := isR_v (Cond.before_iff.mp (hsets _ (List.mem_of_getElem? (i := 8) rfl)))
  have S_fm : Sta s s.heap "jdk/internal/util/Preconditions" "SIOOBE_FORMATTER" "Ljava/util/function/BiFunction;" fm := Sta.start efm (Or.inl (hsets _ (List.mem_of_getElem? (i := 7) rfl)))
  have n_iM := Cond.before_iff.mp (hsets _ (List.mem_of_getElem? (i := 11) rfl))
  obtain ⟨iM, e_iM⟩ := exa_v n_iM
  have S_iM : Sta s s.heap "java/time/Instant" "MIN" "Ljava/time/Instant;" (.ref iM) := Sta.start e_iM (Or.inl (hsets _ (List.mem_of_getElem? (i := 10) rfl)))
  have E_iM := Exa.start e_iM n_iM
  have n_iE := Cond.before_iff.mp (hsets _ (List.mem_of_getElem? (i := 16) rfl))
  obtain ⟨iE, e_iE⟩ := exa_v n_iE
  have S_iE : Sta s s.heap "java/time/Instant" "EPOCH" "Ljava/time/Instant;" (.ref iE) := Sta.start e_iE (Or.inl (hsets _ (List.mem_of_getElem? (i := 15) rfl)))
  have E_iE := Exa.start e_iE n_iE
  have n_bz := Cond.before_iff.mp (hsets _ (List.mem_of_getElem? (i := 23) rfl))
  obtain ⟨bz, e_bz⟩ := exa_v n_bz
  have S_bz : Sta s s.heap "java/math/BigDecimal" "ZERO" "Ljava/math/BigDecimal;" (.ref bz) := Sta.start e_bz (Or.inl (hsets _ (List.mem_of_getElem? (i := 20) rfl)))
  have E_bz := Exa.start e_bz n_bz
  have T_iM : Fld s s.heap iM "java/time/Instant" "seconds" "J" (.long (-31557014167219200 : Int64)) := own_fldJ (fld_at e_iM) (Cond.before_iff.mp (hsets _ (List.mem_of_getElem? (i := 12) rfl)))
  have T_iE : Fld s s.heap iE "java/time/Instant" "seconds" "J" (.long (0 : Int64)) := own_fldJ (fld_at e_iE) (Cond.before_iff.mp (hsets _ (List.mem_of_getElem? (i := 17) rfl)))
  obtain ⟨an, e_an⟩ := exa_v hn
  have S_an : Sta s s.heap "com/example/meterwright/meterwright/usage/Attributes" "NONE" "Lcom/example/meterwright/meterwright/usage/Attributes;" (.ref an) := Sta.start e_an (Or.inr ⟨(wd_46 hw), (wd_47 hw)⟩)
  have E_an := Exa.start e_an hn
  obtain ⟨n, o, h1, h2, h3, v, L, rfl, ⟨N, -, -, rfl⟩, hq⟩ := m_law (l := l) (Z := s) (n0 := s.heap.size) hw rfl i0 i1 i2 i3 i4 S_zc hzc S_fm hfm S_iM E_iM S_iE E_iE S_bz E_bz S_an E_an T_iM T_iE p e ha hc hk s m _ below hf ((Spec.applies_iff_loose hf).mp happ).1 ⟨rfl, rfl⟩ trivial
  refine ⟨n, _, h1, h2, h3, hpost _ _ _ _ _ _ ⟨Cond.after_iff.mpr rfl, Cond.after_iff.mpr (eq_i res_at (Term.int_eval (1)) rfl), trivial⟩ ⟨hq.1, hq.2.1, hq.2.2.1, (hq.2.2.2.sift fun y hy => Or.inr (N y hy)).mono (by decide) (by decide)⟩⟩
theorem main_1_1 : Claimed_1_1 := comes_1 fun _ _ _ _ _ _ h hF => ⟨h.1, hF⟩
theorem main_1_2 : Claimed_1_2 := comes_1 fun _ _ _ _ _ _ h hF => ⟨h.2.1, hF⟩
end Jvm.Pilot.@@N@@
namespace Jvm.Pilot.@@N@@
open Jvm Jvm.ClassFile Sem Op Lib Jvm.Free Jvm.Stand Jvm.Pilot.@@N@@.Jvm.D
/-! MADE BY PROGRAM (witnessworld.py) out of the Statement's table words and the real class files: 31 classes; the members and pool entries that the words name. The judged class is class 1, her method 2. -/
namespace start1
open Jvm.ClassFile
def u (s : String) : CpInfo := .utf8 (stringToUtf16 s)
/-- a pool by its gaps: so many unusable entries, then the entry; so many at the end -/
def gap : Nat → List CpInfo → List CpInfo
  | 0, r => r
  | n + 1, r => .unusable :: gap n r
def poolList (es : List (Nat × CpInfo)) (last : Nat) : List CpInfo := es.foldr (fun e r => gap e.1 (e.2 :: r)) (gap last [])
def pool (es : List (Nat × CpInfo)) (last : Nat) : Array CpInfo := ⟨poolList es last⟩
def fileOf (pool : Array CpInfo) (this : Nat) (attrs : Array Attribute := #[]) (ms : Array MethodInfo := #[]) (fl : Nat := 33) (sup : Nat := 0) (ifs : Array Nat := #[]) (fds : Array FieldInfo := #[]) : ClassFile where
  minorVersion := 0
  majorVersion := 65
  constantPool := pool
  accessFlags := fl
  thisClass := this
  superClass := sup
  interfaces := ifs
  fields := fds
  methods := ms
  attributes := attrs
def plain (name : String) (sup : Option ClassId) : Class where
  name := name
  kind := .ordinary
  loader := none
  accessFlags := 33
  super := sup
  interfaces := #[]
  cf := none
  fields := #[]
  methods := #[]
  instanceTypes := #[]
  staticTypes := #[]
  resolved := #[]
  callSites := []
  init := .initialized
  statics := none
  mirror := none

def pool0 : Array CpInfo := pool [(5, u "<init>"), (0, u "()V"), (1, .class_ 10), (1, u "java/lang/Object")] 113

def k0c0 : Code := { maxStack := 0, maxLocals := 1, code := object_method_1_code, exceptionTable := #[], attributes := #[] }
def k0m0 : Method := { name := "<init>", desc := "()V", sig := { parameters := [], returnType := none }, accessFlags := 1, code := some k0c0 }
/-- java/lang/Object -/
def k0 : Class := { plain "java/lang/Object" none with
  accessFlags := 33
  interfaces := #[]
  cf := some (fileOf pool0 8 #[] #[{ accessFlags := 1, nameIndex := 5, descriptorIndex := 6, attributes := #[] }] 33 0 #[] #[])
  fields := #[]
  methods := #[k0m0]
  instanceTypes := #[]
  staticTypes := #[]
  resolved := Array.replicate 124 none
  statics := none }

def pool1 : Array CpInfo := pool [(2, .class_ 4), (1, u "java/lang/Object"), (0, u "<init>"), (0, u "()V"), (0, .class_ 8), (0, u "java/lang/String"), (0, .methodref 7 10), (0, .nameAndType 5 11), (0, u "([C)V"), (0, .methodref 13 14), (0, .class_ 15), (0, .nameAndType 16 17), (0, u "com/example/meterwright/meterwright/snapshot/HoldingOfPinLaw"), (0, u "name"), (0, u "(I)Ljava/lang/String;"), (0, .class_ 19), (0, u "com/example/meterwright/meterwright/usage/UsageRecord"), (0, .fieldref 21 22), (0, .class_ 23), (0, .nameAndType 24 25), (0, u "java/time/Instant"), (0, u "MIN"), (0, u "Ljava/time/Instant;"), (0, .fieldref 21 27), (0, .nameAndType 28 25), (0, u "EPOCH"), (0, .fieldref 30 31), (0, .class_ 32), (0, .nameAndType 33 34), (0, u "java/math/BigDecimal"), (0, u "ZERO"), (0, u "Ljava/math/BigDecimal;"), (0, .methodref 18 36), (0, .nameAndType 5 37), (0, u "(Ljava/time/Instant;Ljava/time/Instant;Ljava/lang/String;Ljava/lang/String;Ljava/lang/String;Ljava/lang/String;Ljava/math/BigDecimal;Lcom/example/meterwright/meterwright/pricing/MeterKind;Z)V"), (0, .methodref 39 40), (0, .class_ 41), (0, .nameAndType 42 43), (0, u "com/example/meterwright/meterwright/snapshot/Holding"), (0, u "of"), (0, u "(Lcom/example/meterwright/meterwright/usage/UsageRecord;)Lcom/example/meterwright/meterwright/snapshot/Holding;"), (0, .fieldref 45 46), (0, .class_ 47), (0, .nameAndType 48 49), (0, u "com/example/meterwright/meterwright/usage/Attributes"), (0, u "NONE"), (0, u "Lcom/example/meterwright/meterwright/usage/Attributes;"), (0, .methodref 18 51), (0, .nameAndType 52 53), (0, u "set"), (0, u "(Ljava/time/Instant;Ljava/time/Instant;Ljava/lang/String;Ljava/lang/String;Ljava/lang/String;Ljava/lang/String;Ljava/math/BigDecimal;Lcom/example/meterwright/meterwright/pricing/MeterKind;ZLcom/example/meterwright/meterwright/usage/Attributes;Ljava/lang/String;)Lcom/example/meterwright/meterwright/usage/UsageRecord;"), (0, .methodref 39 55), (0, .nameAndType 56 57), (0, u "tenant"), (0, u "()Ljava/lang/String;"), (0, .methodref 7 59), (0, .nameAndType 60 61), (0, u "equals"), (0, u "(Ljava/lang/Object;)Z"), (0, .methodref 39 63), (0, .nameAndType 64 57), (0, u "project"), (0, .methodref 39 66), (0, .nameAndType 67 57), (0, u "resource"), (0, .methodref 39 69), (0, .nameAndType 70 57), (0, u "meter"), (3, u "law"), (0, u "(IIIII)Z")] 2

def k1m0 : Method := { name := "<init>", desc := "()V", sig := { parameters := [], returnType := none }, accessFlags := 2, code := none }
def k1c1 : Code := { maxStack := 6, maxLocals := 3, code := method_2_code, exceptionTable := #[], attributes := #[] }
def k1m1 : Method := { name := "name", desc := "(I)Ljava/lang/String;", sig := { parameters := [.int], returnType := some (.object "java/lang/String") }, accessFlags := 10, code := some k1c1 }
def k1c2 : Code := { maxStack := 12, maxLocals := 12, code := code, exceptionTable := #[], attributes := #[] }
def k1m2 : Method := { name := "law", desc := "(IIIII)Z", sig := { parameters := [.int, .int, .int, .int, .int], returnType := some .boolean }, accessFlags := 9, code := some k1c2 }
/-- com/example/meterwright/meterwright/snapshot/HoldingOfPinLaw -/
def k1 : Class := { plain "com/example/meterwright/meterwright/snapshot/HoldingOfPinLaw" (some 0) with
  accessFlags := 49
  interfaces := #[]
  cf := some (fileOf pool1 13 #[] #[{ accessFlags := 2, nameIndex := 5, descriptorIndex := 6, attributes := #[] }, { accessFlags := 10, nameIndex := 16, descriptorIndex := 17, attributes := #[] }, { accessFlags := 9, nameIndex := 74, descriptorIndex := 75, attributes := #[] }] 49 2 #[] #[])
  fields := #[]
  methods := #[k1m0, k1m1, k1m2]
  instanceTypes := #[]
  staticTypes := #[]
  resolved := Array.replicate 78 none
  statics := none }

def pool2 : Array CpInfo := pool [(1, .class_ 2), (0, u "java/io/Serializable"), (0, .class_ 4), (0, u "java/lang/Object")] 2

/-- java/io/Serializable -/
def k2 : Class := { plain "java/io/Serializable" (some 0) with
  accessFlags := 1537
  interfaces := #[]
  cf := some (fileOf pool2 1 #[] #[] 1537 3 #[] #[])
  fields := #[]
  methods := #[]
  instanceTypes := #[]
  staticTypes := #[]
  resolved := Array.replicate 7 none
  statics := none }

def pool3 : Array CpInfo := pool [(1, .class_ 2), (0, u "java/lang/Comparable"), (0, .class_ 4), (0, u "java/lang/Object")] 7

/-- java/lang/Comparable -/
def k3 : Class := { plain "java/lang/Comparable" (some 0) with
  accessFlags := 1537
  interfaces := #[]
  cf := some (fileOf pool3 1 #[] #[] 1537 3 #[] #[])
  fields := #[]
  methods := #[]
  instanceTypes := #[]
  staticTypes := #[]
  resolved := Array.replicate 12 none
  statics := none }

def pool4 : Array CpInfo := pool [(2, .class_ 4), (1, u "java/lang/CharSequence"), (42, .class_ 48), (0, u "java/lang/CharSequence$1CodePointIterator"), (10, .class_ 60), (0, u "java/lang/CharSequence$1CharIterator"), (5, .class_ 67), (0, u "java/lang/Object")] 63

/-- java/lang/CharSequence -/
def k4 : Class := { plain "java/lang/CharSequence" (some 0) with
  accessFlags := 1537
  interfaces := #[]
  cf := some (fileOf pool4 2 #[.nestMembers #[47, 59]] #[] 1537 66 #[] #[])
  fields := #[]
  methods := #[]
  instanceTypes := #[]
  staticTypes := #[]
  resolved := Array.replicate 131 none
  statics := none }

def pool5 : Array CpInfo := pool [(1, .class_ 2), (0, u "java/lang/constant/Constable"), (0, .class_ 4), (0, u "java/lang/Object")] 6

/-- java/lang/constant/Constable -/
def k5 : Class := { plain "java/lang/constant/Constable" (some 0) with
  accessFlags := 1537
  interfaces := #[]
  cf := some (fileOf pool5 1 #[] #[] 1537 3 #[] #[])
  fields := #[]
  methods := #[]
  instanceTypes := #[]
  staticTypes := #[]
  resolved := Array.replicate 11 none
  statics := none }

def pool6 : Array CpInfo := pool [(1, .class_ 2), (0, u "java/lang/constant/ConstantDesc"), (0, .class_ 4), (0, u "java/lang/Object")] 32

/-- java/lang/constant/ConstantDesc -/
def k6 : Class := { plain "java/lang/constant/ConstantDesc" (some 0) with
  accessFlags := 1537
  interfaces := #[]
  cf := some (fileOf pool6 1 #[] #[] 1537 3 #[] #[])
  fields := #[]
  methods := #[]
  instanceTypes := #[]
  staticTypes := #[]
  resolved := Array.replicate 37 none
  statics := none }

def pool7 : Array CpInfo := pool [(1, .methodref 2 3), (0, .class_ 4), (0, .nameAndType 5 6), (0, u "java/lang/Object"), (0, u "<init>"), (0, u "()V"), (2, .fieldref 10 11), (0, .class_ 12), (0, .nameAndType 13 14), (0, u "java/lang/String"), (0, u "value"), (0, u "[B"), (0, .fieldref 10 16), (0, .nameAndType 17 18), (0, u "coder"), (0, u "B"), (2, u "hash"), (0, u "I"), (2, u "hashIsZero"), (0, u "Z"), (0, .methodref 10 28), (0, .nameAndType 5 29), (0, u "([CIILjava/lang/Void;)V"), (8, .fieldref 10 39), (0, .nameAndType 40 26), (0, u "COMPACT_STRINGS"), (1, .class_ 44), (1, u "java/lang/StringUTF16"), (0, u "compress"), (1, .methodref 42 48), (0, .nameAndType 49 50), (0, u "coderFromArrayLen"), (0, u "([BI)B"), (91, u "()Z"), (34, .methodref 42 178), (0, .nameAndType 45 179), (0, u "([CII)[B"), (363, u "equals"), (29, u "(Ljava/lang/Object;)Z"), (1, .class_ 576), (0, u "java/lang/CharSequence"), (22, u "CASE_INSENSITIVE_ORDER"), (0, u "Ljava/util/Comparator;"), (91, u "isEmpty"), (317, u "([C)V"), (90, u "serialPersistentFields"), (0, u "[Ljava/io/ObjectStreamField;"), (0, .class_ 1104), (0, u "java/lang/String$CaseInsensitiveComparator"), (1, .class_ 1107), (0, u "java/io/Serializable"), (0, .class_ 1109), (0, u "java/lang/Comparable"), (0, .class_ 1111), (0, u "java/lang/constant/Constable"), (0, .class_ 1113), (0, u "java/lang/constant/ConstantDesc"), (2, u "serialVersionUID"), (0, u "J"), (3, u "REPL"), (0, u "C"), (2, u "LATIN1"), (1, u "UTF16")] 323

def k7m0 : Method := { name := "<init>", desc := "()V", sig := { parameters := [], returnType := none }, accessFlags := 1, code := none }
def k7c1 : Code := { maxStack := 5, maxLocals := 2, code := jdk_42_method_3_code, exceptionTable := #[], attributes := #[] }
def k7m1 : Method := { name := "<init>", desc := "([C)V", sig := { parameters := [(.array .char)], returnType := none }, accessFlags := 1, code := some k7c1 }
def k7c2 : Code := { maxStack := 1, maxLocals := 1, code := jdk_42_method_55_code, exceptionTable := #[], attributes := #[] }
def k7m2 : Method := { name := "isEmpty", desc := "()Z", sig := { parameters := [], returnType := some .boolean }, accessFlags := 1, code := some k7c2 }
def k7c3 : Code := { maxStack := 2, maxLocals := 3, code := jdk_42_method_66_code, exceptionTable := #[], attributes := #[] }
def k7m3 : Method := { name := "equals", desc := "(Ljava/lang/Object;)Z", sig := { parameters := [(.object "java/lang/Object")], returnType := some .boolean }, accessFlags := 1, code := some k7c3 }
def k7c4 : Code := { maxStack := 4, maxLocals := 6, code := jdk_42_method_149_code, exceptionTable := #[], attributes := #[] }
def k7m4 : Method := { name := "<init>", desc := "([CIILjava/lang/Void;)V", sig := { parameters := [(.array .char), .int, .int, (.object "java/lang/Void")], returnType := none }, accessFlags := 2, code := some k7c4 }
/-- java/lang/String -/
def k7 : Class := { plain "java/lang/String" (some 0) with
  accessFlags := 49
  interfaces := #[2, 3, 4, 5, 6]
  cf := some (fileOf pool7 10 #[.nestMembers #[1103]] #[{ accessFlags := 1, nameIndex := 5, descriptorIndex := 6, attributes := #[] }, { accessFlags := 1, nameIndex := 5, descriptorIndex := 1010, attributes := #[] }, { accessFlags := 1, nameIndex := 692, descriptorIndex := 142, attributes := #[] }, { accessFlags := 1, nameIndex := 543, descriptorIndex := 573, attributes := #[] }, { accessFlags := 2, nameIndex := 5, descriptorIndex := 29, attributes := #[] }] 49 2 #[1106, 1108, 575, 1110, 1112] #[{ accessFlags := 18, nameIndex := 13, descriptorIndex := 14, attributes := #[] }, { accessFlags := 18, nameIndex := 17, descriptorIndex := 18, attributes := #[] }, { accessFlags := 2, nameIndex := 21, descriptorIndex := 22, attributes := #[] }, { accessFlags := 2, nameIndex := 25, descriptorIndex := 26, attributes := #[] }, { accessFlags := 26, nameIndex := 1116, descriptorIndex := 1117, attributes := #[] }, { accessFlags := 24, nameIndex := 40, descriptorIndex := 26, attributes := #[] }, { accessFlags := 26, nameIndex := 1101, descriptorIndex := 1102, attributes := #[] }, { accessFlags := 26, nameIndex := 1121, descriptorIndex := 1122, attributes := #[] }, { accessFlags := 25, nameIndex := 599, descriptorIndex := 600, attributes := #[] }, { accessFlags := 24, nameIndex := 1125, descriptorIndex := 18, attributes := #[] }, { accessFlags := 24, nameIndex := 1127, descriptorIndex := 18, attributes := #[] }])
  fields := #[{ name := "value", type := (.array .byte), accessFlags := 18, slot := 0, constantValue := 0 }, { name := "coder", type := .byte, accessFlags := 18, slot := 1, constantValue := 0 }, { name := "hash", type := .int, accessFlags := 2, slot := 2, constantValue := 0 }, { name := "hashIsZero", type := .boolean, accessFlags := 2, slot := 3, constantValue := 0 }, { name := "serialVersionUID", type := .long, accessFlags := 26, slot := 0, constantValue := 0 }, { name := "COMPACT_STRINGS", type := .boolean, accessFlags := 24, slot := 1, constantValue := 0 }, { name := "serialPersistentFields", type := (.array (.object "java/io/ObjectStreamField")), accessFlags := 26, slot := 2, constantValue := 0 }, { name := "REPL", type := .char, accessFlags := 26, slot := 3, constantValue := 0 }, { name := "CASE_INSENSITIVE_ORDER", type := (.object "java/util/Comparator"), accessFlags := 25, slot := 4, constantValue := 0 }, { name := "LATIN1", type := .byte, accessFlags := 24, slot := 5, constantValue := 0 }, { name := "UTF16", type := .byte, accessFlags := 24, slot := 6, constantValue := 0 }]
  methods := #[k7m0, k7m1, k7m2, k7m3, k7m4]
  instanceTypes := #[(.array .byte), .byte, .int, .boolean]
  staticTypes := #[.long, .boolean, (.array (.object "java/io/ObjectStreamField")), .char, (.object "java/util/Comparator"), .byte, .byte]
  resolved := Array.replicate 1451 none
  statics := some 0 }

def pool8 : Array CpInfo := pool [(6, .class_ 8), (1, u "java/lang/Object"), (0, u "<init>"), (0, u "()V"), (1, .class_ 14), (1, u "java/lang/StringUTF16"), (31, u "$assertionsDisabled"), (0, u "Z"), (13, u "HI_BYTE_SHIFT"), (0, u "I"), (2, u "LO_BYTE_SHIFT"), (49, .methodref 12 116), (0, .nameAndType 117 118), (0, u "compress"), (0, u "([CI[BII)I"), (3, u "([CII)[B"), (138, u "coderFromArrayLen"), (0, u "([BI)B"), (106, .class_ 371), (1, u "java/lang/StringUTF16$LinesSpliterator"), (58, u "MAX_LENGTH"), (196, .class_ 628), (0, u "java/lang/StringUTF16$CodePointsSpliterator"), (0, .class_ 630), (0, u "java/lang/StringUTF16$CharsSpliterator")] 4

def k8m0 : Method := { name := "<init>", desc := "()V", sig := { parameters := [], returnType := none }, accessFlags := 0, code := none }
def k8c1 : Code := { maxStack := 2, maxLocals := 2, code := jdk_52_method_15_code, exceptionTable := #[], attributes := #[] }
def k8m1 : Method := { name := "coderFromArrayLen", desc := "([BI)B", sig := { parameters := [(.array .byte), .int], returnType := some .byte }, accessFlags := 8, code := some k8c1 }
def k8c2 : Code := { maxStack := 5, maxLocals := 6, code := jdk_52_method_16_code, exceptionTable := #[], attributes := #[] }
def k8m2 : Method := { name := "compress", desc := "([CII)[B", sig := { parameters := [(.array .char), .int, .int], returnType := some (.array .byte) }, accessFlags := 9, code := some k8c2 }
def k8c3 : Code := { maxStack := 3, maxLocals := 7, code := jdk_52_method_21_code, exceptionTable := #[], attributes := #[] }
def k8m3 : Method := { name := "compress", desc := "([CI[BII)I", sig := { parameters := [(.array .char), .int, (.array .byte), .int, .int], returnType := some .int }, accessFlags := 9, code := some k8c3 }
/-- java/lang/StringUTF16 -/
def k8 : Class := { plain "java/lang/StringUTF16" (some 0) with
  accessFlags := 48
  interfaces := #[]
  cf := some (fileOf pool8 12 #[.nestMembers #[627, 629, 369]] #[{ accessFlags := 0, nameIndex := 9, descriptorIndex := 10, attributes := #[] }, { accessFlags := 8, nameIndex := 261, descriptorIndex := 262, attributes := #[] }, { accessFlags := 9, nameIndex := 117, descriptorIndex := 122, attributes := #[] }, { accessFlags := 9, nameIndex := 117, descriptorIndex := 118, attributes := #[] }] 48 6 #[] #[{ accessFlags := 26, nameIndex := 61, descriptorIndex := 62, attributes := #[] }, { accessFlags := 26, nameIndex := 65, descriptorIndex := 62, attributes := #[] }, { accessFlags := 24, nameIndex := 430, descriptorIndex := 62, attributes := #[] }, { accessFlags := 4120, nameIndex := 46, descriptorIndex := 47, attributes := #[] }])
  fields := #[{ name := "HI_BYTE_SHIFT", type := .int, accessFlags := 26, slot := 0, constantValue := 0 }, { name := "LO_BYTE_SHIFT", type := .int, accessFlags := 26, slot := 1, constantValue := 0 }, { name := "MAX_LENGTH", type := .int, accessFlags := 24, slot := 2, constantValue := 0 }, { name := "$assertionsDisabled", type := .boolean, accessFlags := 4120, slot := 3, constantValue := 0 }]
  methods := #[k8m0, k8m1, k8m2, k8m3]
  instanceTypes := #[]
  staticTypes := #[.int, .int, .int, .boolean]
  resolved := Array.replicate 635 none
  statics := none }

def pool9 : Array CpInfo := pool [(1, .fieldref 2 3), (0, .class_ 4), (0, .nameAndType 5 6), (0, u "com/example/meterwright/meterwright/usage/Attributes"), (0, u "NONE"), (0, u "Lcom/example/meterwright/meterwright/usage/Attributes;"), (0, .methodref 8 9), (0, .class_ 10), (0, .nameAndType 11 12), (0, u "com/example/meterwright/meterwright/usage/UsageRecord"), (0, u "<init>"), (0, u "(Ljava/time/Instant;Ljava/time/Instant;Ljava/lang/String;Ljava/lang/String;Ljava/lang/String;Ljava/lang/String;Ljava/math/BigDecimal;Lcom/example/meterwright/meterwright/pricing/MeterKind;ZLcom/example/meterwright/meterwright/usage/Attributes;Ljava/lang/String;)V"), (0, .methodref 14 15), (0, .class_ 16), (0, .nameAndType 11 17), (0, u "java/lang/Object"), (0, u "()V"), (0, .methodref 8 19), (0, .nameAndType 20 21), (0, u "set"), (0, u "(Ljava/time/Instant;Ljava/time/Instant;Ljava/lang/String;Ljava/lang/String;Ljava/lang/String;Ljava/lang/String;Ljava/math/BigDecimal;Lcom/example/meterwright/meterwright/pricing/MeterKind;ZLcom/example/meterwright/meterwright/usage/Attributes;Ljava/lang/String;)Lcom/example/meterwright/meterwright/usage/UsageRecord;"), (0, .methodref 23 24), (0, .class_ 25), (0, .nameAndType 26 27), (0, u "java/time/Instant"), (0, u "isAfter"), (0, u "(Ljava/time/Instant;)Z"), (3, .class_ 33), (1, u "java/lang/String"), (9, .string 44), (0, u "tenant"), (0, .methodref 8 46), (0, .nameAndType 47 48), (0, u "checkNotEmpty"), (0, u "(Ljava/lang/String;Ljava/lang/String;)V"), (0, .string 50), (0, u "project"), (0, .string 52), (0, u "resource"), (0, .string 54), (0, u "meter"), (1, u "currency"), (0, .fieldref 8 58), (0, .nameAndType 59 60), (0, u "start"), (0, u "Ljava/time/Instant;"), (0, .fieldref 8 62), (0, .nameAndType 63 60), (0, u "end"), (0, .fieldref 8 65), (0, .nameAndType 44 66), (0, u "Ljava/lang/String;"), (0, .fieldref 8 68), (0, .nameAndType 50 66), (0, .fieldref 8 70), (0, .nameAndType 52 66), (0, .fieldref 8 72), (0, .nameAndType 54 66), (0, .string 74), (0, u "quantity"), (0, .methodref 76 77), (0, .class_ 78), (0, .nameAndType 79 80), (0, u "java/util/Objects"), (0, u "requireNonNull"), (0, u "(Ljava/lang/Object;Ljava/lang/String;)Ljava/lang/Object;"), (0, .class_ 82), (0, u "java/math/BigDecimal"), (0, .fieldref 8 84), (0, .nameAndType 74 85), (0, u "Ljava/math/BigDecimal;"), (0, .fieldref 8 87), (0, .nameAndType 88 89), (0, u "kind"), (0, u "Lcom/example/meterwright/meterwright/pricing/MeterKind;"), (0, .fieldref 8 91), (0, .nameAndType 92 93), (0, u "valid"), (0, u "Z"), (0, .string 95), (0, u "attributes"), (0, .fieldref 8 97), (0, .nameAndType 95 6), (0, .fieldref 8 99), (0, .nameAndType 56 66), (0, .methodref 31 101), (0, .nameAndType 102 103), (0, u "isEmpty"), (0, u "()Z"), (21, u "()Ljava/lang/String;"), (2, u "(Ljava/time/Instant;Ljava/time/Instant;Ljava/lang/String;Ljava/lang/String;Ljava/lang/String;Ljava/lang/String;Ljava/math/BigDecimal;Lcom/example/meterwright/meterwright/pricing/MeterKind;Z)V")] 32

def k9c0 : Code := { maxStack := 12, maxLocals := 10, code := prog_68_method_1_code, exceptionTable := #[], attributes := #[] }
def k9m0 : Method := { name := "<init>", desc := "(Ljava/time/Instant;Ljava/time/Instant;Ljava/lang/String;Ljava/lang/String;Ljava/lang/String;Ljava/lang/String;Ljava/math/BigDecimal;Lcom/example/meterwright/meterwright/pricing/MeterKind;Z)V", sig := { parameters := [(.object "java/time/Instant"), (.object "java/time/Instant"), (.object "java/lang/String"), (.object "java/lang/String"), (.object "java/lang/String"), (.object "java/lang/String"), (.object "java/math/BigDecimal"), (.object "com/example/meterwright/meterwright/pricing/MeterKind"), .boolean], returnType := none }, accessFlags := 1, code := some k9c0 }
def k9c1 : Code := { maxStack := 12, maxLocals := 12, code := prog_68_method_2_code, exceptionTable := #[], attributes := #[] }
def k9m1 : Method := { name := "<init>", desc := "(Ljava/time/Instant;Ljava/time/Instant;Ljava/lang/String;Ljava/lang/String;Ljava/lang/String;Ljava/lang/String;Ljava/math/BigDecimal;Lcom/example/meterwright/meterwright/pricing/MeterKind;ZLcom/example/meterwright/meterwright/usage/Attributes;Ljava/lang/String;)V", sig := { parameters := [(.object "java/time/Instant"), (.object "java/time/Instant"), (.object "java/lang/String"), (.object "java/lang/String"), (.object "java/lang/String"), (.object "java/lang/String"), (.object "java/math/BigDecimal"), (.object "com/example/meterwright/meterwright/pricing/MeterKind"), .boolean, (.object "com/example/meterwright/meterwright/usage/Attributes"), (.object "java/lang/String")], returnType := none }, accessFlags := 1, code := some k9c1 }
def k9m2 : Method := { name := "<init>", desc := "()V", sig := { parameters := [], returnType := none }, accessFlags := 1, code := none }
def k9c3 : Code := { maxStack := 4, maxLocals := 12, code := prog_68_method_4_code, exceptionTable := #[], attributes := #[] }
def k9m3 : Method := { name := "set", desc := "(Ljava/time/Instant;Ljava/time/Instant;Ljava/lang/String;Ljava/lang/String;Ljava/lang/String;Ljava/lang/String;Ljava/math/BigDecimal;Lcom/example/meterwright/meterwright/pricing/MeterKind;ZLcom/example/meterwright/meterwright/usage/Attributes;Ljava/lang/String;)Lcom/example/meterwright/meterwright/usage/UsageRecord;", sig := { parameters := [(.object "java/time/Instant"), (.object "java/time/Instant"), (.object "java/lang/String"), (.object "java/lang/String"), (.object "java/lang/String"), (.object "java/lang/String"), (.object "java/math/BigDecimal"), (.object "com/example/meterwright/meterwright/pricing/MeterKind"), .boolean, (.object "com/example/meterwright/meterwright/usage/Attributes"), (.object "java/lang/String")], returnType := some (.object "com/example/meterwright/meterwright/usage/UsageRecord") }, accessFlags := 1, code := some k9c3 }
def k9c4 : Code := { maxStack := 3, maxLocals := 2, code := prog_68_method_6_code, exceptionTable := #[], attributes := #[] }
def k9m4 : Method := { name := "checkNotEmpty", desc := "(Ljava/lang/String;Ljava/lang/String;)V", sig := { parameters := [(.object "java/lang/String"), (.object "java/lang/String")], returnType := none }, accessFlags := 10, code := some k9c4 }
def k9c5 : Code := { maxStack := 1, maxLocals := 1, code := prog_68_method_9_code, exceptionTable := #[], attributes := #[] }
def k9m5 : Method := { name := "tenant", desc := "()Ljava/lang/String;", sig := { parameters := [], returnType := some (.object "java/lang/String") }, accessFlags := 1, code := some k9c5 }
def k9c6 : Code := { maxStack := 1, maxLocals := 1, code := prog_68_method_10_code, exceptionTable := #[], attributes := #[] }
def k9m6 : Method := { name := "project", desc := "()Ljava/lang/String;", sig := { parameters := [], returnType := some (.object "java/lang/String") }, accessFlags := 1, code := some k9c6 }
def k9c7 : Code := { maxStack := 1, maxLocals := 1, code := prog_68_method_11_code, exceptionTable := #[], attributes := #[] }
def k9m7 : Method := { name := "resource", desc := "()Ljava/lang/String;", sig := { parameters := [], returnType := some (.object "java/lang/String") }, accessFlags := 1, code := some k9c7 }
def k9c8 : Code := { maxStack := 1, maxLocals := 1, code := prog_68_method_12_code, exceptionTable := #[], attributes := #[] }
def k9m8 : Method := { name := "meter", desc := "()Ljava/lang/String;", sig := { parameters := [], returnType := some (.object "java/lang/String") }, accessFlags := 1, code := some k9c8 }
/-- com/example/meterwright/meterwright/usage/UsageRecord -/
def k9 : Class := { plain "com/example/meterwright/meterwright/usage/UsageRecord" (some 0) with
  accessFlags := 49
  interfaces := #[]
  cf := some (fileOf pool9 8 #[] #[{ accessFlags := 1, nameIndex := 11, descriptorIndex := 128, attributes := #[] }, { accessFlags := 1, nameIndex := 11, descriptorIndex := 12, attributes := #[] }, { accessFlags := 1, nameIndex := 11, descriptorIndex := 17, attributes := #[] }, { accessFlags := 1, nameIndex := 20, descriptorIndex := 21, attributes := #[] }, { accessFlags := 10, nameIndex := 47, descriptorIndex := 48, attributes := #[] }, { accessFlags := 1, nameIndex := 44, descriptorIndex := 125, attributes := #[] }, { accessFlags := 1, nameIndex := 50, descriptorIndex := 125, attributes := #[] }, { accessFlags := 1, nameIndex := 52, descriptorIndex := 125, attributes := #[] }, { accessFlags := 1, nameIndex := 54, descriptorIndex := 125, attributes := #[] }] 49 14 #[] #[{ accessFlags := 2, nameIndex := 59, descriptorIndex := 60, attributes := #[] }, { accessFlags := 2, nameIndex := 63, descriptorIndex := 60, attributes := #[] }, { accessFlags := 2, nameIndex := 44, descriptorIndex := 66, attributes := #[] }, { accessFlags := 2, nameIndex := 50, descriptorIndex := 66, attributes := #[] }, { accessFlags := 2, nameIndex := 52, descriptorIndex := 66, attributes := #[] }, { accessFlags := 2, nameIndex := 54, descriptorIndex := 66, attributes := #[] }, { accessFlags := 2, nameIndex := 74, descriptorIndex := 85, attributes := #[] }, { accessFlags := 2, nameIndex := 88, descriptorIndex := 89, attributes := #[] }, { accessFlags := 2, nameIndex := 92, descriptorIndex := 93, attributes := #[] }, { accessFlags := 2, nameIndex := 95, descriptorIndex := 6, attributes := #[] }, { accessFlags := 2, nameIndex := 56, descriptorIndex := 66, attributes := #[] }])
  fields := #[{ name := "start", type := (.object "java/time/Instant"), accessFlags := 2, slot := 0, constantValue := 0 }, { name := "end", type := (.object "java/time/Instant"), accessFlags := 2, slot := 1, constantValue := 0 }, { name := "tenant", type := (.object "java/lang/String"), accessFlags := 2, slot := 2, constantValue := 0 }, { name := "project", type := (.object "java/lang/String"), accessFlags := 2, slot := 3, constantValue := 0 }, { name := "resource", type := (.object "java/lang/String"), accessFlags := 2, slot := 4, constantValue := 0 }, { name := "meter", type := (.object "java/lang/String"), accessFlags := 2, slot := 5, constantValue := 0 }, { name := "quantity", type := (.object "java/math/BigDecimal"), accessFlags := 2, slot := 6, constantValue := 0 }, { name := "kind", type := (.object "com/example/meterwright/meterwright/pricing/MeterKind"), accessFlags := 2, slot := 7, constantValue := 0 }, { name := "valid", type := .boolean, accessFlags := 2, slot := 8, constantValue := 0 }, { name := "attributes", type := (.object "com/example/meterwright/meterwright/usage/Attributes"), accessFlags := 2, slot := 9, constantValue := 0 }, { name := "currency", type := (.object "java/lang/String"), accessFlags := 2, slot := 10, constantValue := 0 }]
  methods := #[k9m0, k9m1, k9m2, k9m3, k9m4, k9m5, k9m6, k9m7, k9m8]
  instanceTypes := #[(.object "java/time/Instant"), (.object "java/time/Instant"), (.object "java/lang/String"), (.object "java/lang/String"), (.object "java/lang/String"), (.object "java/lang/String"), (.object "java/math/BigDecimal"), (.object "com/example/meterwright/meterwright/pricing/MeterKind"), .boolean, (.object "com/example/meterwright/meterwright/usage/Attributes"), (.object "java/lang/String")]
  staticTypes := #[]
  resolved := Array.replicate 161 none
  statics := none }

def pool10 : Array CpInfo := pool [(4, .class_ 6), (1, u "java/time/temporal/TemporalAccessor"), (95, .class_ 103), (0, u "java/lang/Object")] 21

/-- java/time/temporal/TemporalAccessor -/
def k10 : Class := { plain "java/time/temporal/TemporalAccessor" (some 0) with
  accessFlags := 1537
  interfaces := #[]
  cf := some (fileOf pool10 4 #[] #[] 1537 102 #[] #[])
  fields := #[]
  methods := #[]
  instanceTypes := #[]
  staticTypes := #[]
  resolved := Array.replicate 125 none
  statics := none }

def pool11 : Array CpInfo := pool [(22, .class_ 24), (1, u "java/time/temporal/Temporal"), (2, .class_ 28), (0, u "java/lang/Object"), (0, .class_ 30), (0, u "java/time/temporal/TemporalAccessor")] 25

/-- java/time/temporal/Temporal -/
def k11 : Class := { plain "java/time/temporal/Temporal" (some 0) with
  accessFlags := 1537
  interfaces := #[10]
  cf := some (fileOf pool11 22 #[] #[] 1537 27 #[29] #[])
  fields := #[]
  methods := #[]
  instanceTypes := #[]
  staticTypes := #[]
  resolved := Array.replicate 56 none
  statics := none }

def pool12 : Array CpInfo := pool [(1, .class_ 2), (0, u "java/time/temporal/TemporalAdjuster"), (0, .class_ 4), (0, u "java/lang/Object")] 6

/-- java/time/temporal/TemporalAdjuster -/
def k12 : Class := { plain "java/time/temporal/TemporalAdjuster" (some 0) with
  accessFlags := 1537
  interfaces := #[]
  cf := some (fileOf pool12 1 #[] #[] 1537 3 #[] #[])
  fields := #[]
  methods := #[]
  instanceTypes := #[]
  staticTypes := #[]
  resolved := Array.replicate 11 none
  statics := none }

def pool13 : Array CpInfo := pool [(21, .class_ 23), (1, u "java/time/Instant"), (99, u "EPOCH"), (0, u "Ljava/time/Instant;"), (13, .class_ 139), (0, u "java/lang/Object"), (0, .fieldref 21 141), (0, .nameAndType 142 143), (0, u "seconds"), (0, u "J"), (2, u "nanos"), (0, u "I"), (28, .class_ 178), (1, u "java/time/temporal/Temporal"), (3, .class_ 184), (1, u "java/time/Instant$1"), (23, .class_ 210), (1, u "java/time/temporal/TemporalAdjuster"), (71, .class_ 283), (0, u "java/lang/Long"), (83, .methodref 282 368), (0, .nameAndType 369 370), (0, u "compare"), (0, u "(JJ)I"), (0, .methodref 21 372), (0, .nameAndType 373 374), (0, u "compareTo"), (0, u "(Ljava/time/Instant;)I"), (48, u "MIN"), (4, u "MAX"), (0, .class_ 430), (0, u "java/lang/Comparable"), (0, .class_ 432), (0, u "java/io/Serializable"), (0, u "MIN_SECOND"), (1, u "MAX_SECOND"), (0, u "serialVersionUID"), (88, u "isAfter"), (0, u "(Ljava/time/Instant;)Z")] 52

def k13c0 : Code := { maxStack := 4, maxLocals := 3, code := jdk_2320_method_41_code, exceptionTable := #[], attributes := #[] }
def k13m0 : Method := { name := "compareTo", desc := "(Ljava/time/Instant;)I", sig := { parameters := [(.object "java/time/Instant")], returnType := some .int }, accessFlags := 1, code := some k13c0 }
def k13c1 : Code := { maxStack := 2, maxLocals := 2, code := jdk_2320_method_42_code, exceptionTable := #[], attributes := #[] }
def k13m1 : Method := { name := "isAfter", desc := "(Ljava/time/Instant;)Z", sig := { parameters := [(.object "java/time/Instant")], returnType := some .boolean }, accessFlags := 1, code := some k13c1 }
/-- java/time/Instant -/
def k13 : Class := { plain "java/time/Instant" (some 0) with
  accessFlags := 49
  interfaces := #[11, 12, 3, 2]
  cf := some (fileOf pool13 21 #[.nestMembers #[182]] #[{ accessFlags := 1, nameIndex := 373, descriptorIndex := 374, attributes := #[] }, { accessFlags := 1, nameIndex := 525, descriptorIndex := 526, attributes := #[] }] 49 138 #[176, 208, 429, 431] #[{ accessFlags := 25, nameIndex := 123, descriptorIndex := 124, attributes := #[] }, { accessFlags := 26, nameIndex := 433, descriptorIndex := 143, attributes := #[] }, { accessFlags := 26, nameIndex := 435, descriptorIndex := 143, attributes := #[] }, { accessFlags := 25, nameIndex := 423, descriptorIndex := 124, attributes := #[] }, { accessFlags := 25, nameIndex := 428, descriptorIndex := 124, attributes := #[] }, { accessFlags := 26, nameIndex := 436, descriptorIndex := 143, attributes := #[] }, { accessFlags := 18, nameIndex := 142, descriptorIndex := 143, attributes := #[] }, { accessFlags := 18, nameIndex := 146, descriptorIndex := 147, attributes := #[] }])
  fields := #[{ name := "EPOCH", type := (.object "java/time/Instant"), accessFlags := 25, slot := 0, constantValue := 0 }, { name := "MIN_SECOND", type := .long, accessFlags := 26, slot := 1, constantValue := 0 }, { name := "MAX_SECOND", type := .long, accessFlags := 26, slot := 2, constantValue := 0 }, { name := "MIN", type := (.object "java/time/Instant"), accessFlags := 25, slot := 3, constantValue := 0 }, { name := "MAX", type := (.object "java/time/Instant"), accessFlags := 25, slot := 4, constantValue := 0 }, { name := "serialVersionUID", type := .long, accessFlags := 26, slot := 5, constantValue := 0 }, { name := "seconds", type := .long, accessFlags := 18, slot := 0, constantValue := 0 }, { name := "nanos", type := .int, accessFlags := 18, slot := 1, constantValue := 0 }]
  methods := #[k13m0, k13m1]
  instanceTypes := #[.long, .int]
  staticTypes := #[(.object "java/time/Instant"), .long, .long, (.object "java/time/Instant"), (.object "java/time/Instant"), .long]
  resolved := Array.replicate 579 none
  statics := some 1 }

def pool14 : Array CpInfo := pool [(2, .class_ 4), (1, u "java/lang/Object"), (0, u "<init>"), (0, u "()V"), (1, .class_ 10), (1, u "java/lang/Number"), (2, .class_ 14), (0, u "java/io/Serializable"), (0, u "serialVersionUID"), (0, u "J")] 20

def k14m0 : Method := { name := "<init>", desc := "()V", sig := { parameters := [], returnType := none }, accessFlags := 1, code := none }
/-- java/lang/Number -/
def k14 : Class := { plain "java/lang/Number" (some 0) with
  accessFlags := 1057
  interfaces := #[2]
  cf := some (fileOf pool14 8 #[] #[{ accessFlags := 1, nameIndex := 5, descriptorIndex := 6, attributes := #[] }] 1057 2 #[13] #[{ accessFlags := 26, nameIndex := 15, descriptorIndex := 16, attributes := #[] }])
  fields := #[{ name := "serialVersionUID", type := .long, accessFlags := 26, slot := 0, constantValue := 0 }]
  methods := #[k14m0]
  instanceTypes := #[]
  staticTypes := #[.long]
  resolved := Array.replicate 37 none
  statics := none }

def pool15 : Array CpInfo := pool [(3, .class_ 4), (0, u "java/math/BigDecimal"), (7, .class_ 14), (1, u "java/lang/Number"), (4, u "scale"), (0, u "I"), (2, u "precision"), (2, u "intCompact"), (0, u "J"), (2, u "intVal"), (0, u "Ljava/math/BigInteger;"), (65, u "LONG_TEN_POWERS_TABLE"), (0, u "[J"), (88, u "ZERO"), (2, u "INFLATED_BIGINT"), (15, u "TWO"), (41, u "ZERO_THROUGH_TEN"), (0, u "[Ljava/math/BigDecimal;"), (2, u "ZERO_SCALED_BY"), (60, u "$assertionsDisabled"), (0, u "Z"), (163, u "ONE_TENTH"), (0, u "Ljava/math/BigDecimal;"), (5, u "TEN"), (14, .class_ 502), (1, u "java/math/BigDecimal$1"), (15, u "ONE_HALF"), (16, u "ONE"), (107, u "stringCache"), (0, u "Ljava/lang/String;"), (52, .class_ 699), (1, u "java/math/BigDecimal$LongOverflow"), (8, u "FLOAT_10_POW"), (0, u "[F"), (39, u "DOUBLE_10_POW"), (0, u "[D"), (19, .class_ 772), (1, u "java/math/BigDecimal$StringBuilderHelper"), (35, u "BIG_TEN_POWERS_TABLE_MAX"), (2, u "BIG_TEN_POWERS_TABLE"), (0, u "[Ljava/math/BigInteger;"), (14, u "THRESHOLDS_TABLE"), (23, .class_ 853), (1, u "java/math/BigDecimal$UnsafeHolder"), (214, u "LONGLONG_TEN_POWERS_TABLE"), (0, u "[[J"), (112, u "BIG_TEN_POWERS_TABLE_INITLEN"), (113, .class_ 1297), (0, u "java/lang/Comparable"), (0, u "L"), (0, u "D"), (1, u "P_F"), (1, u "Q_MIN_F"), (1, u "Q_MAX_F"), (1, u "P_D"), (1, u "Q_MIN_D"), (1, u "Q_MAX_D"), (1, u "INFLATED"), (0, u "MAX_COMPACT_DIGITS"), (1, u "serialVersionUID"), (2, u "HALF_LONG_MAX_VALUE"), (0, u "HALF_LONG_MIN_VALUE"), (0, u "ROUND_UP"), (6, u "ROUND_DOWN"), (1, u "ROUND_CEILING"), (1, u "ROUND_FLOOR"), (1, u "ROUND_HALF_UP"), (1, u "ROUND_HALF_DOWN"), (1, u "ROUND_HALF_EVEN"), (1, u "ROUND_UNNECESSARY"), (1, u "DIV_NUM_BASE")] 294

/-- java/math/BigDecimal -/
def k15 : Class := { plain "java/math/BigDecimal" (some 14) with
  accessFlags := 33
  interfaces := #[3]
  cf := some (fileOf pool15 3 #[.nestMembers #[500, 851, 770, 697]] #[] 33 12 #[1296] #[{ accessFlags := 26, nameIndex := 1298, descriptorIndex := 1299, attributes := #[] }, { accessFlags := 26, nameIndex := 1301, descriptorIndex := 20, attributes := #[] }, { accessFlags := 26, nameIndex := 1303, descriptorIndex := 20, attributes := #[] }, { accessFlags := 26, nameIndex := 1305, descriptorIndex := 20, attributes := #[] }, { accessFlags := 26, nameIndex := 1307, descriptorIndex := 20, attributes := #[] }, { accessFlags := 26, nameIndex := 1309, descriptorIndex := 20, attributes := #[] }, { accessFlags := 26, nameIndex := 1311, descriptorIndex := 20, attributes := #[] }, { accessFlags := 18, nameIndex := 30, descriptorIndex := 31, attributes := #[] }, { accessFlags := 18, nameIndex := 19, descriptorIndex := 20, attributes := #[] }, { accessFlags := 130, nameIndex := 23, descriptorIndex := 20, attributes := #[] }, { accessFlags := 130, nameIndex := 643, descriptorIndex := 644, attributes := #[] }, { accessFlags := 24, nameIndex := 1313, descriptorIndex := 27, attributes := #[] }, { accessFlags := 26, nameIndex := 190, descriptorIndex := 31, attributes := #[] }, { accessFlags := 146, nameIndex := 26, descriptorIndex := 27, attributes := #[] }, { accessFlags := 26, nameIndex := 1314, descriptorIndex := 20, attributes := #[] }, { accessFlags := 26, nameIndex := 1316, descriptorIndex := 27, attributes := #[] }, { accessFlags := 26, nameIndex := 248, descriptorIndex := 249, attributes := #[] }, { accessFlags := 26, nameIndex := 252, descriptorIndex := 249, attributes := #[] }, { accessFlags := 26, nameIndex := 1319, descriptorIndex := 27, attributes := #[] }, { accessFlags := 26, nameIndex := 1320, descriptorIndex := 27, attributes := #[] }, { accessFlags := 25, nameIndex := 187, descriptorIndex := 479, attributes := #[] }, { accessFlags := 25, nameIndex := 535, descriptorIndex := 479, attributes := #[] }, { accessFlags := 25, nameIndex := 206, descriptorIndex := 479, attributes := #[] }, { accessFlags := 25, nameIndex := 485, descriptorIndex := 479, attributes := #[] }, { accessFlags := 26, nameIndex := 478, descriptorIndex := 479, attributes := #[] }, { accessFlags := 26, nameIndex := 518, descriptorIndex := 479, attributes := #[] }, { accessFlags := 25, nameIndex := 1321, descriptorIndex := 20, attributes := #[] }, { accessFlags := 25, nameIndex := 1328, descriptorIndex := 20, attributes := #[] }, { accessFlags := 25, nameIndex := 1330, descriptorIndex := 20, attributes := #[] }, { accessFlags := 25, nameIndex := 1332, descriptorIndex := 20, attributes := #[] }, { accessFlags := 25, nameIndex := 1334, descriptorIndex := 20, attributes := #[] }, { accessFlags := 25, nameIndex := 1336, descriptorIndex := 20, attributes := #[] }, { accessFlags := 25, nameIndex := 1338, descriptorIndex := 20, attributes := #[] }, { accessFlags := 25, nameIndex := 1340, descriptorIndex := 20, attributes := #[] }, { accessFlags := 26, nameIndex := 749, descriptorIndex := 750, attributes := #[] }, { accessFlags := 26, nameIndex := 708, descriptorIndex := 709, attributes := #[] }, { accessFlags := 26, nameIndex := 97, descriptorIndex := 98, attributes := #[] }, { accessFlags := 74, nameIndex := 811, descriptorIndex := 812, attributes := #[] }, { accessFlags := 26, nameIndex := 1182, descriptorIndex := 20, attributes := #[] }, { accessFlags := 26, nameIndex := 808, descriptorIndex := 20, attributes := #[] }, { accessFlags := 26, nameIndex := 827, descriptorIndex := 98, attributes := #[] }, { accessFlags := 26, nameIndex := 1342, descriptorIndex := 27, attributes := #[] }, { accessFlags := 26, nameIndex := 1068, descriptorIndex := 1069, attributes := #[] }, { accessFlags := 4120, nameIndex := 313, descriptorIndex := 314, attributes := #[] }])
  fields := #[{ name := "L", type := .double, accessFlags := 26, slot := 0, constantValue := 0 }, { name := "P_F", type := .int, accessFlags := 26, slot := 1, constantValue := 0 }, { name := "Q_MIN_F", type := .int, accessFlags := 26, slot := 2, constantValue := 0 }, { name := "Q_MAX_F", type := .int, accessFlags := 26, slot := 3, constantValue := 0 }, { name := "P_D", type := .int, accessFlags := 26, slot := 4, constantValue := 0 }, { name := "Q_MIN_D", type := .int, accessFlags := 26, slot := 5, constantValue := 0 }, { name := "Q_MAX_D", type := .int, accessFlags := 26, slot := 6, constantValue := 0 }, { name := "intVal", type := (.object "java/math/BigInteger"), accessFlags := 18, slot := 0, constantValue := 0 }, { name := "scale", type := .int, accessFlags := 18, slot := 1, constantValue := 0 }, { name := "precision", type := .int, accessFlags := 130, slot := 2, constantValue := 0 }, { name := "stringCache", type := (.object "java/lang/String"), accessFlags := 130, slot := 3, constantValue := 0 }, { name := "INFLATED", type := .long, accessFlags := 24, slot := 7, constantValue := 0 }, { name := "INFLATED_BIGINT", type := (.object "java/math/BigInteger"), accessFlags := 26, slot := 8, constantValue := 0 }, { name := "intCompact", type := .long, accessFlags := 146, slot := 4, constantValue := 0 }, { name := "MAX_COMPACT_DIGITS", type := .int, accessFlags := 26, slot := 9, constantValue := 0 }, { name := "serialVersionUID", type := .long, accessFlags := 26, slot := 10, constantValue := 0 }, { name := "ZERO_THROUGH_TEN", type := (.array (.object "java/math/BigDecimal")), accessFlags := 26, slot := 11, constantValue := 0 }, { name := "ZERO_SCALED_BY", type := (.array (.object "java/math/BigDecimal")), accessFlags := 26, slot := 12, constantValue := 0 }, { name := "HALF_LONG_MAX_VALUE", type := .long, accessFlags := 26, slot := 13, constantValue := 0 }, { name := "HALF_LONG_MIN_VALUE", type := .long, accessFlags := 26, slot := 14, constantValue := 0 }, { name := "ZERO", type := (.object "java/math/BigDecimal"), accessFlags := 25, slot := 15, constantValue := 0 }, { name := "ONE", type := (.object "java/math/BigDecimal"), accessFlags := 25, slot := 16, constantValue := 0 }, { name := "TWO", type := (.object "java/math/BigDecimal"), accessFlags := 25, slot := 17, constantValue := 0 }, { name := "TEN", type := (.object "java/math/BigDecimal"), accessFlags := 25, slot := 18, constantValue := 0 }, { name := "ONE_TENTH", type := (.object "java/math/BigDecimal"), accessFlags := 26, slot := 19, constantValue := 0 }, { name := "ONE_HALF", type := (.object "java/math/BigDecimal"), accessFlags := 26, slot := 20, constantValue := 0 }, { name := "ROUND_UP", type := .int, accessFlags := 25, slot := 21, constantValue := 0 }, { name := "ROUND_DOWN", type := .int, accessFlags := 25, slot := 22, constantValue := 0 }, { name := "ROUND_CEILING", type := .int, accessFlags := 25, slot := 23, constantValue := 0 }, { name := "ROUND_FLOOR", type := .int, accessFlags := 25, slot := 24, constantValue := 0 }, { name := "ROUND_HALF_UP", type := .int, accessFlags := 25, slot := 25, constantValue := 0 }, { name := "ROUND_HALF_DOWN", type := .int, accessFlags := 25, slot := 26, constantValue := 0 }, { name := "ROUND_HALF_EVEN", type := .int, accessFlags := 25, slot := 27, constantValue := 0 }, { name := "ROUND_UNNECESSARY", type := .int, accessFlags := 25, slot := 28, constantValue := 0 }, { name := "DOUBLE_10_POW", type := (.array .double), accessFlags := 26, slot := 29, constantValue := 0 }, { name := "FLOAT_10_POW", type := (.array .float), accessFlags := 26, slot := 30, constantValue := 0 }, { name := "LONG_TEN_POWERS_TABLE", type := (.array .long), accessFlags := 26, slot := 31, constantValue := 0 }, { name := "BIG_TEN_POWERS_TABLE", type := (.array (.object "java/math/BigInteger")), accessFlags := 74, slot := 32, constantValue := 0 }, { name := "BIG_TEN_POWERS_TABLE_INITLEN", type := .int, accessFlags := 26, slot := 33, constantValue := 0 }, { name := "BIG_TEN_POWERS_TABLE_MAX", type := .int, accessFlags := 26, slot := 34, constantValue := 0 }, { name := "THRESHOLDS_TABLE", type := (.array .long), accessFlags := 26, slot := 35, constantValue := 0 }, { name := "DIV_NUM_BASE", type := .long, accessFlags := 26, slot := 36, constantValue := 0 }, { name := "LONGLONG_TEN_POWERS_TABLE", type := (.array (.array .long)), accessFlags := 26, slot := 37, constantValue := 0 }, { name := "$assertionsDisabled", type := .boolean, accessFlags := 4120, slot := 38, constantValue := 0 }]
  methods := #[]
  instanceTypes := #[(.object "java/math/BigInteger"), .int, .int, (.object "java/lang/String"), .long]
  staticTypes := #[.double, .int, .int, .int, .int, .int, .int, .long, (.object "java/math/BigInteger"), .int, .long, (.array (.object "java/math/BigDecimal")), (.array (.object "java/math/BigDecimal")), .long, .long, (.object "java/math/BigDecimal"), (.object "java/math/BigDecimal"), (.object "java/math/BigDecimal"), (.object "java/math/BigDecimal"), (.object "java/math/BigDecimal"), (.object "java/math/BigDecimal"), .int, .int, .int, .int, .int, .int, .int, .int, (.array .double), (.array .float), (.array .long), (.array (.object "java/math/BigInteger")), .int, .int, (.array .long), .long, (.array (.array .long)), .boolean]
  resolved := Array.replicate 1637 none
  statics := some 2 }

def pool16 : Array CpInfo := pool [(2, .class_ 4), (1, u "java/lang/Object"), (9, .class_ 16), (1, u "com/example/meterwright/meterwright/usage/Attributes"), (0, u "pairs"), (0, u "Ljava/util/SortedMap;"), (15, u "[Ljava/lang/String;"), (2, u "keys"), (2, u "values"), (12, u "hash"), (0, u "I"), (6, u "NONE"), (0, u "Lcom/example/meterwright/meterwright/usage/Attributes;"), (119, u "NOTATION"), (0, u "Ljava/lang/String;")] 43

/-- com/example/meterwright/meterwright/usage/Attributes -/
def k16 : Class := { plain "com/example/meterwright/meterwright/usage/Attributes" (some 0) with
  accessFlags := 49
  interfaces := #[]
  cf := some (fileOf pool16 14 #[] #[] 49 2 #[] #[{ accessFlags := 25, nameIndex := 61, descriptorIndex := 62, attributes := #[] }, { accessFlags := 26, nameIndex := 182, descriptorIndex := 183, attributes := #[] }, { accessFlags := 18, nameIndex := 17, descriptorIndex := 18, attributes := #[] }, { accessFlags := 18, nameIndex := 37, descriptorIndex := 34, attributes := #[] }, { accessFlags := 18, nameIndex := 40, descriptorIndex := 34, attributes := #[] }, { accessFlags := 18, nameIndex := 53, descriptorIndex := 54, attributes := #[] }])
  fields := #[{ name := "NONE", type := (.object "com/example/meterwright/meterwright/usage/Attributes"), accessFlags := 25, slot := 0, constantValue := 0 }, { name := "NOTATION", type := (.object "java/lang/String"), accessFlags := 26, slot := 1, constantValue := 0 }, { name := "pairs", type := (.object "java/util/SortedMap"), accessFlags := 18, slot := 0, constantValue := 0 }, { name := "keys", type := (.array (.object "java/lang/String")), accessFlags := 18, slot := 1, constantValue := 0 }, { name := "values", type := (.array (.object "java/lang/String")), accessFlags := 18, slot := 2, constantValue := 0 }, { name := "hash", type := .int, accessFlags := 18, slot := 3, constantValue := 0 }]
  methods := #[]
  instanceTypes := #[(.object "java/util/SortedMap"), (.array (.object "java/lang/String")), (.array (.object "java/lang/String")), .int]
  staticTypes := #[(.object "com/example/meterwright/meterwright/usage/Attributes"), (.object "java/lang/String")]
  resolved := Array.replicate 227 none
  statics := some 3 }

def pool17 : Array CpInfo := pool [(1, .class_ 2), (0, u "java/lang/Long"), (232, .class_ 237), (1, u "java/lang/Long$LongCache"), (33, .class_ 272), (0, u "java/lang/Number"), (2, u "value"), (0, u "J"), (27, u "compare"), (0, u "(JJ)I"), (55, u "TYPE"), (0, u "Ljava/lang/Class;"), (0, .class_ 364), (0, u "java/lang/Comparable"), (0, .class_ 366), (0, u "java/lang/constant/Constable"), (0, .class_ 368), (0, u "java/lang/constant/ConstantDesc"), (0, u "MIN_VALUE"), (1, u "MAX_VALUE"), (4, u "SIZE"), (0, u "I"), (1, u "BYTES"), (1, u "serialVersionUID")] 142

def k17c0 : Code := { maxStack := 4, maxLocals := 4, code := jdk_35_method_42_code, exceptionTable := #[], attributes := #[] }
def k17m0 : Method := { name := "compare", desc := "(JJ)I", sig := { parameters := [.long, .long], returnType := some .int }, accessFlags := 9, code := some k17c0 }
/-- java/lang/Long -/
def k17 : Class := { plain "java/lang/Long" (some 14) with
  accessFlags := 49
  interfaces := #[3, 5, 6]
  cf := some (fileOf pool17 1 #[.nestMembers #[235]] #[{ accessFlags := 9, nameIndex := 304, descriptorIndex := 305, attributes := #[] }] 49 271 #[363, 365, 367] #[{ accessFlags := 25, nameIndex := 369, descriptorIndex := 276, attributes := #[] }, { accessFlags := 25, nameIndex := 371, descriptorIndex := 276, attributes := #[] }, { accessFlags := 25, nameIndex := 361, descriptorIndex := 362, attributes := #[] }, { accessFlags := 18, nameIndex := 275, descriptorIndex := 276, attributes := #[] }, { accessFlags := 25, nameIndex := 376, descriptorIndex := 377, attributes := #[] }, { accessFlags := 25, nameIndex := 379, descriptorIndex := 377, attributes := #[] }, { accessFlags := 26, nameIndex := 381, descriptorIndex := 276, attributes := #[] }])
  fields := #[{ name := "MIN_VALUE", type := .long, accessFlags := 25, slot := 0, constantValue := 0 }, { name := "MAX_VALUE", type := .long, accessFlags := 25, slot := 1, constantValue := 0 }, { name := "TYPE", type := (.object "java/lang/Class"), accessFlags := 25, slot := 2, constantValue := 0 }, { name := "value", type := .long, accessFlags := 18, slot := 0, constantValue := 0 }, { name := "SIZE", type := .int, accessFlags := 25, slot := 3, constantValue := 0 }, { name := "BYTES", type := .int, accessFlags := 25, slot := 4, constantValue := 0 }, { name := "serialVersionUID", type := .long, accessFlags := 26, slot := 5, constantValue := 0 }]
  methods := #[k17m0]
  instanceTypes := #[.long]
  staticTypes := #[.long, .long, (.object "java/lang/Class"), .int, .int, .long]
  resolved := Array.replicate 524 none
  statics := none }

def pool18 : Array CpInfo := pool [(2, .class_ 4), (1, u "java/lang/Object"), (0, u "<init>"), (0, u "()V"), (35, .class_ 44), (1, u "java/util/Objects"), (0, u "requireNonNull"), (48, u "(Ljava/lang/Object;Ljava/lang/String;)Ljava/lang/Object;")] 89

def k18m0 : Method := { name := "<init>", desc := "()V", sig := { parameters := [], returnType := none }, accessFlags := 2, code := none }
def k18c1 : Code := { maxStack := 3, maxLocals := 2, code := jdk_31_method_11_code, exceptionTable := #[], attributes := #[] }
def k18m1 : Method := { name := "requireNonNull", desc := "(Ljava/lang/Object;Ljava/lang/String;)Ljava/lang/Object;", sig := { parameters := [(.object "java/lang/Object"), (.object "java/lang/String")], returnType := some (.object "java/lang/Object") }, accessFlags := 9, code := some k18c1 }
/-- java/util/Objects -/
def k18 : Class := { plain "java/util/Objects" (some 0) with
  accessFlags := 49
  interfaces := #[]
  cf := some (fileOf pool18 42 #[] #[{ accessFlags := 2, nameIndex := 5, descriptorIndex := 6, attributes := #[] }, { accessFlags := 9, nameIndex := 45, descriptorIndex := 94, attributes := #[] }] 49 2 #[] #[])
  fields := #[]
  methods := #[k18m0, k18m1]
  instanceTypes := #[]
  staticTypes := #[]
  resolved := Array.replicate 184 none
  statics := none }

def pool19 : Array CpInfo := pool [(1, .methodref 2 3), (0, .class_ 4), (0, .nameAndType 5 6), (0, u "java/lang/Object"), (0, u "<init>"), (0, u "()V"), (0, .fieldref 8 9), (0, .class_ 10), (0, .nameAndType 11 12), (0, u "com/example/meterwright/meterwright/snapshot/Holding"), (0, u "tenant"), (0, u "Ljava/lang/String;"), (0, .fieldref 8 14), (0, .nameAndType 15 12), (0, u "project"), (0, .fieldref 8 17), (0, .nameAndType 18 12), (0, u "resource"), (0, .fieldref 8 20), (0, .nameAndType 21 12), (0, u "meter"), (0, .methodref 23 24), (0, .class_ 25), (0, .nameAndType 11 26), (0, u "com/example/meterwright/meterwright/usage/UsageRecord"), (0, u "()Ljava/lang/String;"), (0, .methodref 23 28), (0, .nameAndType 15 26), (0, .methodref 23 30), (0, .nameAndType 18 26), (0, .methodref 23 32), (0, .nameAndType 21 26), (0, .methodref 8 34), (0, .nameAndType 5 35), (0, u "(Ljava/lang/String;Ljava/lang/String;Ljava/lang/String;Ljava/lang/String;)V"), (2, u "ORDER"), (0, u "Ljava/util/Comparator;"), (30, .class_ 71), (0, u "java/lang/Comparable"), (4, u "of"), (0, u "(Lcom/example/meterwright/meterwright/usage/UsageRecord;)Lcom/example/meterwright/meterwright/snapshot/Holding;")] 37

def k19c0 : Code := { maxStack := 2, maxLocals := 5, code := prog_57_method_1_code, exceptionTable := #[], attributes := #[] }
def k19m0 : Method := { name := "<init>", desc := "(Ljava/lang/String;Ljava/lang/String;Ljava/lang/String;Ljava/lang/String;)V", sig := { parameters := [(.object "java/lang/String"), (.object "java/lang/String"), (.object "java/lang/String"), (.object "java/lang/String")], returnType := none }, accessFlags := 1, code := some k19c0 }
def k19c1 : Code := { maxStack := 6, maxLocals := 1, code := prog_57_method_2_code, exceptionTable := #[], attributes := #[] }
def k19m1 : Method := { name := "of", desc := "(Lcom/example/meterwright/meterwright/usage/UsageRecord;)Lcom/example/meterwright/meterwright/snapshot/Holding;", sig := { parameters := [(.object "com/example/meterwright/meterwright/usage/UsageRecord")], returnType := some (.object "com/example/meterwright/meterwright/snapshot/Holding") }, accessFlags := 8, code := some k19c1 }
def k19c2 : Code := { maxStack := 1, maxLocals := 1, code := prog_57_method_3_code, exceptionTable := #[], attributes := #[] }
def k19m2 : Method := { name := "tenant", desc := "()Ljava/lang/String;", sig := { parameters := [], returnType := some (.object "java/lang/String") }, accessFlags := 1, code := some k19c2 }
def k19c3 : Code := { maxStack := 1, maxLocals := 1, code := prog_57_method_4_code, exceptionTable := #[], attributes := #[] }
def k19m3 : Method := { name := "project", desc := "()Ljava/lang/String;", sig := { parameters := [], returnType := some (.object "java/lang/String") }, accessFlags := 1, code := some k19c3 }
def k19c4 : Code := { maxStack := 1, maxLocals := 1, code := prog_57_method_5_code, exceptionTable := #[], attributes := #[] }
def k19m4 : Method := { name := "resource", desc := "()Ljava/lang/String;", sig := { parameters := [], returnType := some (.object "java/lang/String") }, accessFlags := 1, code := some k19c4 }
def k19c5 : Code := { maxStack := 1, maxLocals := 1, code := prog_57_method_6_code, exceptionTable := #[], attributes := #[] }
def k19m5 : Method := { name := "meter", desc := "()Ljava/lang/String;", sig := { parameters := [], returnType := some (.object "java/lang/String") }, accessFlags := 1, code := some k19c5 }
/-- com/example/meterwright/meterwright/snapshot/Holding -/
def k19 : Class := { plain "com/example/meterwright/meterwright/snapshot/Holding" (some 0) with
  accessFlags := 49
  interfaces := #[3]
  cf := some (fileOf pool19 8 #[] #[{ accessFlags := 1, nameIndex := 5, descriptorIndex := 35, attributes := #[] }, { accessFlags := 8, nameIndex := 76, descriptorIndex := 77, attributes := #[] }, { accessFlags := 1, nameIndex := 11, descriptorIndex := 26, attributes := #[] }, { accessFlags := 1, nameIndex := 15, descriptorIndex := 26, attributes := #[] }, { accessFlags := 1, nameIndex := 18, descriptorIndex := 26, attributes := #[] }, { accessFlags := 1, nameIndex := 21, descriptorIndex := 26, attributes := #[] }] 49 2 #[70] #[{ accessFlags := 26, nameIndex := 38, descriptorIndex := 39, attributes := #[] }, { accessFlags := 18, nameIndex := 11, descriptorIndex := 12, attributes := #[] }, { accessFlags := 18, nameIndex := 15, descriptorIndex := 12, attributes := #[] }, { accessFlags := 18, nameIndex := 18, descriptorIndex := 12, attributes := #[] }, { accessFlags := 18, nameIndex := 21, descriptorIndex := 12, attributes := #[] }])
  fields := #[{ name := "ORDER", type := (.object "java/util/Comparator"), accessFlags := 26, slot := 0, constantValue := 0 }, { name := "tenant", type := (.object "java/lang/String"), accessFlags := 18, slot := 0, constantValue := 0 }, { name := "project", type := (.object "java/lang/String"), accessFlags := 18, slot := 1, constantValue := 0 }, { name := "resource", type := (.object "java/lang/String"), accessFlags := 18, slot := 2, constantValue := 0 }, { name := "meter", type := (.object "java/lang/String"), accessFlags := 18, slot := 3, constantValue := 0 }]
  methods := #[k19m0, k19m1, k19m2, k19m3, k19m4, k19m5]
  instanceTypes := #[(.object "java/lang/String"), (.object "java/lang/String"), (.object "java/lang/String"), (.object "java/lang/String")]
  staticTypes := #[(.object "java/util/Comparator")]
  resolved := Array.replicate 115 none
  statics := none }

def pool20 : Array CpInfo := pool [(4, .class_ 6), (1, u "java/lang/Object"), (0, u "<init>"), (0, u "()V"), (5, .class_ 16), (1, u "java/lang/StringLatin1"), (104, u "$assertionsDisabled"), (0, u "Z"), (98, .class_ 223), (1, u "java/lang/StringLatin1$LinesSpliterator"), (166, .class_ 391), (0, u "java/lang/StringLatin1$CharsSpliterator")] 3

def k20m0 : Method := { name := "<init>", desc := "()V", sig := { parameters := [], returnType := none }, accessFlags := 0, code := none }
/-- java/lang/StringLatin1 -/
def k20 : Class := { plain "java/lang/StringLatin1" (some 0) with
  accessFlags := 48
  interfaces := #[]
  cf := some (fileOf pool20 14 #[.nestMembers #[390, 221]] #[{ accessFlags := 0, nameIndex := 7, descriptorIndex := 8, attributes := #[] }] 48 4 #[] #[{ accessFlags := 4120, nameIndex := 121, descriptorIndex := 122, attributes := #[] }])
  fields := #[{ name := "$assertionsDisabled", type := .boolean, accessFlags := 4120, slot := 0, constantValue := 0 }]
  methods := #[k20m0]
  instanceTypes := #[]
  staticTypes := #[.boolean]
  resolved := Array.replicate 395 none
  statics := none }

def pool21 : Array CpInfo := pool [(2, .class_ 4), (1, u "java/lang/Object"), (0, u "<init>"), (0, u "()V"), (17, .class_ 26), (1, u "jdk/internal/util/Preconditions"), (28, .class_ 56), (0, u "jdk/internal/util/Preconditions$4"), (57, .class_ 115), (0, u "jdk/internal/util/Preconditions$1"), (7, u "SIOOBE_FORMATTER"), (0, u "Ljava/util/function/BiFunction;"), (0, .class_ 126), (0, u "jdk/internal/util/Preconditions$2"), (3, u "AIOOBE_FORMATTER"), (0, .class_ 132), (0, u "jdk/internal/util/Preconditions$3"), (3, u "IOOBE_FORMATTER")] 57

def k21m0 : Method := { name := "<init>", desc := "()V", sig := { parameters := [], returnType := none }, accessFlags := 1, code := none }
/-- jdk/internal/util/Preconditions -/
def k21 : Class := { plain "jdk/internal/util/Preconditions" (some 0) with
  accessFlags := 33
  interfaces := #[]
  cf := some (fileOf pool21 24 #[.nestMembers #[55, 131, 125, 114]] #[{ accessFlags := 1, nameIndex := 5, descriptorIndex := 6, attributes := #[] }] 33 2 #[] #[{ accessFlags := 25, nameIndex := 123, descriptorIndex := 124, attributes := #[] }, { accessFlags := 25, nameIndex := 130, descriptorIndex := 124, attributes := #[] }, { accessFlags := 25, nameIndex := 136, descriptorIndex := 124, attributes := #[] }])
  fields := #[{ name := "SIOOBE_FORMATTER", type := (.object "java/util/function/BiFunction"), accessFlags := 25, slot := 0, constantValue := 0 }, { name := "AIOOBE_FORMATTER", type := (.object "java/util/function/BiFunction"), accessFlags := 25, slot := 1, constantValue := 0 }, { name := "IOOBE_FORMATTER", type := (.object "java/util/function/BiFunction"), accessFlags := 25, slot := 2, constantValue := 0 }]
  methods := #[k21m0]
  instanceTypes := #[]
  staticTypes := #[(.object "java/util/function/BiFunction"), (.object "java/util/function/BiFunction"), (.object "java/util/function/BiFunction")]
  resolved := Array.replicate 194 none
  statics := some 4 }

def pool22 : Array CpInfo := pool [(9, u "<init>"), (6, .class_ 18), (1, u "java/lang/Object"), (0, u "()V"), (1, .class_ 23), (1, u "jdk/internal/util/ArraysSupport"), (0, u "LOG2_ARRAY_LONG_INDEX_SCALE"), (0, u "I"), (2, u "U"), (0, u "Ljdk/internal/misc/Unsafe;"), (8, u "BIG_ENDIAN"), (0, u "Z"), (8, u "LOG2_BYTE_BIT_SIZE"), (4, u "LOG2_ARRAY_INT_INDEX_SCALE"), (54, u "JLA"), (0, u "Ljdk/internal/access/JavaLangAccess;"), (11, u "LOG2_ARRAY_BOOLEAN_INDEX_SCALE"), (9, u "LOG2_ARRAY_BYTE_INDEX_SCALE"), (5, u "LOG2_ARRAY_CHAR_INDEX_SCALE"), (5, u "LOG2_ARRAY_SHORT_INDEX_SCALE"), (18, u "LOG2_ARRAY_FLOAT_INDEX_SCALE"), (24, u "LOG2_ARRAY_DOUBLE_INDEX_SCALE"), (89, u "T_BOOLEAN"), (2, u "T_CHAR"), (1, u "T_FLOAT"), (1, u "T_DOUBLE"), (1, u "T_BYTE"), (1, u "T_SHORT"), (1, u "T_INT"), (1, u "T_LONG"), (1, u "SOFT_MAX_ARRAY_LENGTH")] 83

def k22m0 : Method := { name := "<init>", desc := "()V", sig := { parameters := [], returnType := none }, accessFlags := 2, code := none }
/-- jdk/internal/util/ArraysSupport -/
def k22 : Class := { plain "jdk/internal/util/ArraysSupport" (some 0) with
  accessFlags := 33
  interfaces := #[]
  cf := some (fileOf pool22 21 #[] #[{ accessFlags := 2, nameIndex := 9, descriptorIndex := 19, attributes := #[] }] 33 16 #[] #[{ accessFlags := 24, nameIndex := 28, descriptorIndex := 29, attributes := #[] }, { accessFlags := 26, nameIndex := 38, descriptorIndex := 39, attributes := #[] }, { accessFlags := 25, nameIndex := 121, descriptorIndex := 25, attributes := #[] }, { accessFlags := 25, nameIndex := 131, descriptorIndex := 25, attributes := #[] }, { accessFlags := 25, nameIndex := 137, descriptorIndex := 25, attributes := #[] }, { accessFlags := 25, nameIndex := 143, descriptorIndex := 25, attributes := #[] }, { accessFlags := 25, nameIndex := 53, descriptorIndex := 25, attributes := #[] }, { accessFlags := 25, nameIndex := 24, descriptorIndex := 25, attributes := #[] }, { accessFlags := 25, nameIndex := 162, descriptorIndex := 25, attributes := #[] }, { accessFlags := 25, nameIndex := 187, descriptorIndex := 25, attributes := #[] }, { accessFlags := 26, nameIndex := 48, descriptorIndex := 25, attributes := #[] }, { accessFlags := 25, nameIndex := 277, descriptorIndex := 25, attributes := #[] }, { accessFlags := 25, nameIndex := 280, descriptorIndex := 25, attributes := #[] }, { accessFlags := 25, nameIndex := 282, descriptorIndex := 25, attributes := #[] }, { accessFlags := 25, nameIndex := 284, descriptorIndex := 25, attributes := #[] }, { accessFlags := 25, nameIndex := 286, descriptorIndex := 25, attributes := #[] }, { accessFlags := 25, nameIndex := 288, descriptorIndex := 25, attributes := #[] }, { accessFlags := 25, nameIndex := 290, descriptorIndex := 25, attributes := #[] }, { accessFlags := 25, nameIndex := 292, descriptorIndex := 25, attributes := #[] }, { accessFlags := 26, nameIndex := 108, descriptorIndex := 109, attributes := #[] }, { accessFlags := 25, nameIndex := 294, descriptorIndex := 25, attributes := #[] }])
  fields := #[{ name := "U", type := (.object "jdk/internal/misc/Unsafe"), accessFlags := 24, slot := 0, constantValue := 0 }, { name := "BIG_ENDIAN", type := .boolean, accessFlags := 26, slot := 1, constantValue := 0 }, { name := "LOG2_ARRAY_BOOLEAN_INDEX_SCALE", type := .int, accessFlags := 25, slot := 2, constantValue := 0 }, { name := "LOG2_ARRAY_BYTE_INDEX_SCALE", type := .int, accessFlags := 25, slot := 3, constantValue := 0 }, { name := "LOG2_ARRAY_CHAR_INDEX_SCALE", type := .int, accessFlags := 25, slot := 4, constantValue := 0 }, { name := "LOG2_ARRAY_SHORT_INDEX_SCALE", type := .int, accessFlags := 25, slot := 5, constantValue := 0 }, { name := "LOG2_ARRAY_INT_INDEX_SCALE", type := .int, accessFlags := 25, slot := 6, constantValue := 0 }, { name := "LOG2_ARRAY_LONG_INDEX_SCALE", type := .int, accessFlags := 25, slot := 7, constantValue := 0 }, { name := "LOG2_ARRAY_FLOAT_INDEX_SCALE", type := .int, accessFlags := 25, slot := 8, constantValue := 0 }, { name := "LOG2_ARRAY_DOUBLE_INDEX_SCALE", type := .int, accessFlags := 25, slot := 9, constantValue := 0 }, { name := "LOG2_BYTE_BIT_SIZE", type := .int, accessFlags := 26, slot := 10, constantValue := 0 }, { name := "T_BOOLEAN", type := .int, accessFlags := 25, slot := 11, constantValue := 0 }, { name := "T_CHAR", type := .int, accessFlags := 25, slot := 12, constantValue := 0 }, { name := "T_FLOAT", type := .int, accessFlags := 25, slot := 13, constantValue := 0 }, { name := "T_DOUBLE", type := .int, accessFlags := 25, slot := 14, constantValue := 0 }, { name := "T_BYTE", type := .int, accessFlags := 25, slot := 15, constantValue := 0 }, { name := "T_SHORT", type := .int, accessFlags := 25, slot := 16, constantValue := 0 }, { name := "T_INT", type := .int, accessFlags := 25, slot := 17, constantValue := 0 }, { name := "T_LONG", type := .int, accessFlags := 25, slot := 18, constantValue := 0 }, { name := "JLA", type := (.object "jdk/internal/access/JavaLangAccess"), accessFlags := 26, slot := 19, constantValue := 0 }, { name := "SOFT_MAX_ARRAY_LENGTH", type := .int, accessFlags := 25, slot := 20, constantValue := 0 }]
  methods := #[k22m0]
  instanceTypes := #[]
  staticTypes := #[(.object "jdk/internal/misc/Unsafe"), .boolean, .int, .int, .int, .int, .int, .int, .int, .int, .int, .int, .int, .int, .int, .int, .int, .int, .int, (.object "jdk/internal/access/JavaLangAccess"), .int]
  resolved := Array.replicate 378 none
  statics := none }

def pool23 : Array CpInfo := pool [(4, .class_ 6), (1, u "java/lang/Number"), (16, .class_ 25), (1, u "java/math/BigInteger"), (0, u "ZERO"), (0, u "Ljava/math/BigInteger;"), (2, u "mag"), (0, u "[I"), (2, u "signum"), (0, u "I"), (59, u "bitsPerDigit"), (0, u "[J"), (9, u "digitsPerInt"), (12, u "intRadix"), (60, u "SMALL_PRIME_PRODUCT"), (79, u "ONE"), (6, u "TWO"), (43, u "$assertionsDisabled"), (0, u "Z"), (36, u "posConst"), (0, u "[Ljava/math/BigInteger;"), (4, u "negConst"), (116, .class_ 474), (1, u "java/math/BigInteger$RecursiveOp"), (106, u "NEGATIVE_ONE"), (91, u "bnExpModThreshTable"), (72, u "lowestSetBitPlusTwo"), (2, u "bitLengthPlusOne"), (2, u "bitCountPlusOne"), (6, u "LOG_TWO"), (0, u "D"), (2, u "logCache"), (0, u "[D"), (13, u "NUM_ZEROS"), (2, u "ZEROS"), (0, u "Ljava/lang/String;"), (9, u "longRadix"), (5, u "digitsPerLong"), (22, u "powerCache"), (0, u "[[Ljava/math/BigInteger;"), (45, u "firstNonzeroIntNumPlusTwo"), (38, .class_ 909), (1, u "java/math/BigInteger$UnsafeHolder"), (141, u "TEN"), (106, u "serialPersistentFields"), (0, u "[Ljava/io/ObjectStreamField;"), (0, .class_ 1161), (0, u "java/lang/Comparable"), (0, u "LONG_MASK"), (0, u "J"), (1, u "MAX_MAG_LENGTH"), (0, u "PRIME_SEARCH_BIT_LENGTH_LIMIT"), (1, u "KARATSUBA_THRESHOLD"), (1, u "TOOM_COOK_THRESHOLD"), (1, u "KARATSUBA_SQUARE_THRESHOLD"), (1, u "TOOM_COOK_SQUARE_THRESHOLD"), (1, u "BURNIKEL_ZIEGLER_THRESHOLD"), (0, u "BURNIKEL_ZIEGLER_OFFSET"), (1, u "SCHOENHAGE_BASE_CONVERSION_THRESHOLD"), (1, u "MULTIPLY_SQUARE_THRESHOLD"), (0, u "MONTGOMERY_INTRINSIC_THRESHOLD"), (1, u "SMALL_PRIME_THRESHOLD"), (1, u "DEFAULT_PRIME_CERTAINTY"), (1, u "MAX_CONSTANT"), (3, u "serialVersionUID"), (338, .class_ 1532), (0, u "java/math/BigInteger$RecursiveOp$RecursiveSquare"), (0, .class_ 1534), (0, u "java/math/BigInteger$RecursiveOp$RecursiveMultiply")] 7

/-- java/math/BigInteger -/
def k23 : Class := { plain "java/math/BigInteger" (some 14) with
  accessFlags := 33
  interfaces := #[3]
  cf := some (fileOf pool23 23 #[.nestMembers #[907, 472, 1531, 1533]] #[] 33 4 #[1160] #[{ accessFlags := 16, nameIndex := 34, descriptorIndex := 35, attributes := #[] }, { accessFlags := 16, nameIndex := 30, descriptorIndex := 31, attributes := #[] }, { accessFlags := 2, nameIndex := 752, descriptorIndex := 35, attributes := #[] }, { accessFlags := 2, nameIndex := 749, descriptorIndex := 35, attributes := #[] }, { accessFlags := 2, nameIndex := 746, descriptorIndex := 35, attributes := #[] }, { accessFlags := 2, nameIndex := 868, descriptorIndex := 35, attributes := #[] }, { accessFlags := 24, nameIndex := 1162, descriptorIndex := 1163, attributes := #[] }, { accessFlags := 26, nameIndex := 1165, descriptorIndex := 35, attributes := #[] }, { accessFlags := 26, nameIndex := 1166, descriptorIndex := 35, attributes := #[] }, { accessFlags := 26, nameIndex := 1168, descriptorIndex := 35, attributes := #[] }, { accessFlags := 26, nameIndex := 1170, descriptorIndex := 35, attributes := #[] }, { accessFlags := 26, nameIndex := 1172, descriptorIndex := 35, attributes := #[] }, { accessFlags := 26, nameIndex := 1174, descriptorIndex := 35, attributes := #[] }, { accessFlags := 24, nameIndex := 1176, descriptorIndex := 35, attributes := #[] }, { accessFlags := 24, nameIndex := 1177, descriptorIndex := 35, attributes := #[] }, { accessFlags := 26, nameIndex := 1179, descriptorIndex := 35, attributes := #[] }, { accessFlags := 26, nameIndex := 1181, descriptorIndex := 35, attributes := #[] }, { accessFlags := 26, nameIndex := 1182, descriptorIndex := 35, attributes := #[] }, { accessFlags := 10, nameIndex := 95, descriptorIndex := 96, attributes := #[] }, { accessFlags := 26, nameIndex := 1184, descriptorIndex := 35, attributes := #[] }, { accessFlags := 26, nameIndex := 1186, descriptorIndex := 35, attributes := #[] }, { accessFlags := 26, nameIndex := 180, descriptorIndex := 27, attributes := #[] }, { accessFlags := 26, nameIndex := 1188, descriptorIndex := 35, attributes := #[] }, { accessFlags := 26, nameIndex := 349, descriptorIndex := 350, attributes := #[] }, { accessFlags := 26, nameIndex := 355, descriptorIndex := 350, attributes := #[] }, { accessFlags := 74, nameIndex := 821, descriptorIndex := 822, attributes := #[] }, { accessFlags := 26, nameIndex := 763, descriptorIndex := 764, attributes := #[] }, { accessFlags := 26, nameIndex := 759, descriptorIndex := 760, attributes := #[] }, { accessFlags := 25, nameIndex := 26, descriptorIndex := 27, attributes := #[] }, { accessFlags := 25, nameIndex := 260, descriptorIndex := 27, attributes := #[] }, { accessFlags := 25, nameIndex := 267, descriptorIndex := 27, attributes := #[] }, { accessFlags := 26, nameIndex := 581, descriptorIndex := 27, attributes := #[] }, { accessFlags := 25, nameIndex := 1051, descriptorIndex := 27, attributes := #[] }, { accessFlags := 8, nameIndex := 673, descriptorIndex := 31, attributes := #[] }, { accessFlags := 10, nameIndex := 778, descriptorIndex := 35, attributes := #[] }, { accessFlags := 26, nameIndex := 781, descriptorIndex := 782, attributes := #[] }, { accessFlags := 10, nameIndex := 798, descriptorIndex := 31, attributes := #[] }, { accessFlags := 10, nameIndex := 792, descriptorIndex := 350, attributes := #[] }, { accessFlags := 10, nameIndex := 106, descriptorIndex := 31, attributes := #[] }, { accessFlags := 10, nameIndex := 119, descriptorIndex := 31, attributes := #[] }, { accessFlags := 26, nameIndex := 1192, descriptorIndex := 1163, attributes := #[] }, { accessFlags := 26, nameIndex := 1158, descriptorIndex := 1159, attributes := #[] }, { accessFlags := 4120, nameIndex := 311, descriptorIndex := 312, attributes := #[] }])
  fields := #[{ name := "signum", type := .int, accessFlags := 16, slot := 0, constantValue := 0 }, { name := "mag", type := (.array .int), accessFlags := 16, slot := 1, constantValue := 0 }, { name := "bitCountPlusOne", type := .int, accessFlags := 2, slot := 2, constantValue := 0 }, { name := "bitLengthPlusOne", type := .int, accessFlags := 2, slot := 3, constantValue := 0 }, { name := "lowestSetBitPlusTwo", type := .int, accessFlags := 2, slot := 4, constantValue := 0 }, { name := "firstNonzeroIntNumPlusTwo", type := .int, accessFlags := 2, slot := 5, constantValue := 0 }, { name := "LONG_MASK", type := .long, accessFlags := 24, slot := 0, constantValue := 0 }, { name := "MAX_MAG_LENGTH", type := .int, accessFlags := 26, slot := 1, constantValue := 0 }, { name := "PRIME_SEARCH_BIT_LENGTH_LIMIT", type := .int, accessFlags := 26, slot := 2, constantValue := 0 }, { name := "KARATSUBA_THRESHOLD", type := .int, accessFlags := 26, slot := 3, constantValue := 0 }, { name := "TOOM_COOK_THRESHOLD", type := .int, accessFlags := 26, slot := 4, constantValue := 0 }, { name := "KARATSUBA_SQUARE_THRESHOLD", type := .int, accessFlags := 26, slot := 5, constantValue := 0 }, { name := "TOOM_COOK_SQUARE_THRESHOLD", type := .int, accessFlags := 26, slot := 6, constantValue := 0 }, { name := "BURNIKEL_ZIEGLER_THRESHOLD", type := .int, accessFlags := 24, slot := 7, constantValue := 0 }, { name := "BURNIKEL_ZIEGLER_OFFSET", type := .int, accessFlags := 24, slot := 8, constantValue := 0 }, { name := "SCHOENHAGE_BASE_CONVERSION_THRESHOLD", type := .int, accessFlags := 26, slot := 9, constantValue := 0 }, { name := "MULTIPLY_SQUARE_THRESHOLD", type := .int, accessFlags := 26, slot := 10, constantValue := 0 }, { name := "MONTGOMERY_INTRINSIC_THRESHOLD", type := .int, accessFlags := 26, slot := 11, constantValue := 0 }, { name := "bitsPerDigit", type := (.array .long), accessFlags := 10, slot := 12, constantValue := 0 }, { name := "SMALL_PRIME_THRESHOLD", type := .int, accessFlags := 26, slot := 13, constantValue := 0 }, { name := "DEFAULT_PRIME_CERTAINTY", type := .int, accessFlags := 26, slot := 14, constantValue := 0 }, { name := "SMALL_PRIME_PRODUCT", type := (.object "java/math/BigInteger"), accessFlags := 26, slot := 15, constantValue := 0 }, { name := "MAX_CONSTANT", type := .int, accessFlags := 26, slot := 16, constantValue := 0 }, { name := "posConst", type := (.array (.object "java/math/BigInteger")), accessFlags := 26, slot := 17, constantValue := 0 }, { name := "negConst", type := (.array (.object "java/math/BigInteger")), accessFlags := 26, slot := 18, constantValue := 0 }, { name := "powerCache", type := (.array (.array (.object "java/math/BigInteger"))), accessFlags := 74, slot := 19, constantValue := 0 }, { name := "logCache", type := (.array .double), accessFlags := 26, slot := 20, constantValue := 0 }, { name := "LOG_TWO", type := .double, accessFlags := 26, slot := 21, constantValue := 0 }, { name := "ZERO", type := (.object "java/math/BigInteger"), accessFlags := 25, slot := 22, constantValue := 0 }, { name := "ONE", type := (.object "java/math/BigInteger"), accessFlags := 25, slot := 23, constantValue := 0 }, { name := "TWO", type := (.object "java/math/BigInteger"), accessFlags := 25, slot := 24, constantValue := 0 }, { name := "NEGATIVE_ONE", type := (.object "java/math/BigInteger"), accessFlags := 26, slot := 25, constantValue := 0 }, { name := "TEN", type := (.object "java/math/BigInteger"), accessFlags := 25, slot := 26, constantValue := 0 }, { name := "bnExpModThreshTable", type := (.array .int), accessFlags := 8, slot := 27, constantValue := 0 }, { name := "NUM_ZEROS", type := .int, accessFlags := 10, slot := 28, constantValue := 0 }, { name := "ZEROS", type := (.object "java/lang/String"), accessFlags := 26, slot := 29, constantValue := 0 }, { name := "digitsPerLong", type := (.array .int), accessFlags := 10, slot := 30, constantValue := 0 }, { name := "longRadix", type := (.array (.object "java/math/BigInteger")), accessFlags := 10, slot := 31, constantValue := 0 }, { name := "digitsPerInt", type := (.array .int), accessFlags := 10, slot := 32, constantValue := 0 }, { name := "intRadix", type := (.array .int), accessFlags := 10, slot := 33, constantValue := 0 }, { name := "serialVersionUID", type := .long, accessFlags := 26, slot := 34, constantValue := 0 }, { name := "serialPersistentFields", type := (.array (.object "java/io/ObjectStreamField")), accessFlags := 26, slot := 35, constantValue := 0 }, { name := "$assertionsDisabled", type := .boolean, accessFlags := 4120, slot := 36, constantValue := 0 }]
  methods := #[]
  instanceTypes := #[.int, (.array .int), .int, .int, .int, .int]
  staticTypes := #[.long, .int, .int, .int, .int, .int, .int, .int, .int, .int, .int, .int, (.array .long), .int, .int, (.object "java/math/BigInteger"), .int, (.array (.object "java/math/BigInteger")), (.array (.object "java/math/BigInteger")), (.array (.array (.object "java/math/BigInteger"))), (.array .double), .double, (.object "java/math/BigInteger"), (.object "java/math/BigInteger"), (.object "java/math/BigInteger"), (.object "java/math/BigInteger"), (.object "java/math/BigInteger"), (.array .int), .int, (.object "java/lang/String"), (.array .int), (.array (.object "java/math/BigInteger")), (.array .int), (.array .int), .long, (.array (.object "java/io/ObjectStreamField")), .boolean]
  resolved := Array.replicate 1542 none
  statics := some 5 }

def pool24 : Array CpInfo := pool [(1, u "java/lang/Cloneable"), (0, .class_ 1), (0, u "java/lang/Object"), (0, .class_ 3)] 3

/-- java/lang/Cloneable -/
def k24 : Class := { plain "java/lang/Cloneable" (some 0) with
  accessFlags := 1537
  interfaces := #[]
  cf := some (fileOf pool24 2 #[] #[] 1537 4 #[] #[])
  fields := #[]
  methods := #[]
  instanceTypes := #[]
  staticTypes := #[]
  resolved := Array.replicate 8 none
  statics := none }

/-- the primitive byte -/
def k25 : Class := { plain "byte" none with kind := .primitive 'B', accessFlags := 0x411 }
/-- [B -/
def k26 : Class := { plain "[B" (some 0) with kind := .array 25 .byte, interfaces := #[24, 2], accessFlags := 1041 }

/-- the primitive char -/
def k27 : Class := { plain "char" none with kind := .primitive 'C', accessFlags := 0x411 }
/-- [C -/
def k28 : Class := { plain "[C" (some 0) with kind := .array 27 .char, interfaces := #[24, 2], accessFlags := 1041 }

/-- the primitive int -/
def k29 : Class := { plain "int" none with kind := .primitive 'I', accessFlags := 0x411 }
/-- [I -/
def k30 : Class := { plain "[I" (some 0) with kind := .array 29 .int, interfaces := #[24, 2], accessFlags := 1041 }

def heap : Heap := #[{ cls := 7, slots := #[.long 0, .int 1, .null, .int 0, .null, .int 0, .int 0], vm := .statics 7 },
  { cls := 13, slots := #[.ref 11, .long 0, .long 0, .ref 10, .null, .long 0], vm := .statics 13 },
  { cls := 15, slots := #[.double 0, .int 0, .int 0, .int 0, .int 0, .int 0, .int 0, .long 0, .null, .int 0, .long 0, .null, .null, .long 0, .long 0, .ref 9, .null, .null, .null, .null, .null, .int 0, .int 0, .int 0, .int 0, .int 0, .int 0, .int 0, .int 0, .null, .null, .null, .null, .int 0, .int 0, .null, .long 0, .null, .int 0], vm := .statics 15 },
  { cls := 16, slots := #[.ref 6, .null], vm := .statics 16 },
  { cls := 21, slots := #[.null, .null, .null], vm := .statics 21 },
  { cls := 23, slots := #[.long 0, .int 0, .int 0, .int 0, .int 0, .int 0, .int 0, .int 0, .int 0, .int 0, .int 0, .int 0, .null, .int 0, .int 0, .null, .int 0, .null, .null, .null, .null, .double 0, .ref 8, .null, .null, .null, .null, .null, .int 0, .null, .null, .null, .null, .null, .long 0, .null, .int 0], vm := .statics 23 },
  { cls := 16, slots := #[.null, .null, .null, .int 0], vm := .none },
  { cls := 30, slots := #[], vm := .none },
  { cls := 23, slots := #[.int 0, .ref 7, .int 0, .int 0, .int 0, .int 0], vm := .none },
  { cls := 15, slots := #[.ref 8, .int 0, .int 0, .null, .long 0], vm := .none },
  { cls := 13, slots := #[.long (-31557014167219200), .int 0], vm := .none },
  { cls := 13, slots := #[.long 0, .int 0], vm := .none }]
def classes : Array Class := #[k0, k1, k2, k3, k4, k5, k6, k7, k8, k9, k10, k11, k12, k13, k14, k15, k16, k17, k18, k19, k20, k21, k22, k23, k24, k25, k26, k27, k28, k29, k30]
def interned : List (Array UInt16 × Addr) := []
def slotsUsed : Nat := 113
def theMethod : MethodId := ⟨1, 2⟩
def args0 : Array Value := #[.int 1, .int 5, .int 7, .int 2, .int 65]
def aboutOver (below : List Frame) : State where
  vm := { classes := classes, interned := interned.toArray }
  heap := heap
  slotsUsed := slotsUsed
  threads := #[{ frames := .invoking theMethod args0 :: below }]
def below0 : List Frame := [.native { method := ⟨0, 0⟩, args := #[] }]
def about1 : State := aboutOver below0
def p0 : Program := .bare "" "" ""
def e0 : Env := launch0.env 0 0 0
theorem w_frames : about1.frames = Frame.invoking theMethod args0 :: below0 := rfl
set_option maxRecDepth 65536 in
theorem w_args : argsFit about1.vm theMethod args0 = true := by decide +kernel
set_option maxRecDepth 65536 in
theorem w_heap : heapFits about1 = true := by decide +kernel
set_option maxRecDepth 65536 in
theorem w_runnable : about1.curStatus? = some .runnable := by decide +kernel
set_option maxRecDepth 65536 in
theorem w_alone : about1.alone = true := by decide +kernel
set_option maxRecDepth 65536 in
theorem w_named : about1.methodNamed? x = some theMethod := by decide +kernel
set_option maxRecDepth 65536 in
theorem w_hears : about1.hears theMethod below0 = true := by decide +kernel
set_option maxRecDepth 65536 in
theorem w_ripe : about1.ripe theMethod args0 below0 = true := by decide +kernel
theorem w_running : about1.status = .running := rfl
set_option maxRecDepth 65536 in
theorem w_room : about1.hasRoom e0.platform room_1 = true :=
  launch0.hasRoom_least _ room_1 (by decide +kernel) (by decide +kernel) (by decide +kernel) (by decide +kernel) (by decide +kernel) (by decide +kernel)
theorem allAtoms_all (ts : List Jvm.Cond) (a : Array Jvm.Value) (st : Jvm.State) : (allAtoms ts).before a st = ts.all (fun c => c.before a st) := by
  induction ts with
  | nil => rfl
  | cons c t ih =>
    show (Jvm.Cond.and c (allAtoms t)).before a st = _
    rw [Jvm.Cond.before_and, ih, List.all_cons]
def words1 : List Jvm.Cond := Jvm.Cond.code x code maxLocals ret :: tables_1
/-- a 'code' word, met by the world's own term for the bytes: nothing is compared byte by byte -/
theorem code_word {y : MethodName} {bytes : ByteArray} {mx : Nat} {rt : Option FieldType} {a : Array Value} {s : State} {m : MethodId} {meth : Method} {c : Code} (h1 : s.methodNamed? y = some m) (h2 : s.vm.method? m = some meth) (h3 : meth.code = some c) (h4 : c.code = bytes)
    (h5 : (c.maxLocals == mx && c.exceptionTable.isEmpty && decide (c.maxStack ≤ mostOperands) && decide (meth.sig.returnType = rt) && !meth.locks && decide (parseMethodDescriptor y.desc = some meth.sig)) = true) : (Jvm.Cond.code y bytes mx rt).before a s = true := by
  simp only [Bool.and_eq_true, beq_iff_eq, Bool.not_eq_true', decide_eq_true_eq] at h5
  obtain ⟨⟨⟨⟨⟨g1, g2⟩, g3⟩, g4⟩, g5⟩, g6⟩ := h5
  simp [Cond.before, Cond.holds, Cond.value, h1, h2, h3, h4, g1, g2, g3, g4, g5, g6]
def isCode : Jvm.Cond → Bool
  | .code _ _ _ _ => true
  | _ => false
theorem all_split {L : List Jvm.Cond} {P : Jvm.Cond → Bool} (h1 : L.all (fun c => isCode c || P c) = true) (h2 : ∀ c ∈ L.filter isCode, P c = true) : L.all P = true := by
  refine List.all_eq_true.mpr fun c hc => ?_
  have h := List.all_eq_true.mp h1 c hc
  rcases Bool.eq_false_or_eq_true (isCode c) with hi | hi
  · exact h2 c (List.mem_filter.mpr ⟨hc, hi⟩)
  · simpa [hi] using h
set_option maxRecDepth 65536 in
theorem w_c0 : (Jvm.Cond.code x code maxLocals ret).before args0 about1 = true := code_word (m := ⟨1, 2⟩) (meth := k1m2) (c := k1c2) (by decide +kernel) rfl rfl rfl (by decide +kernel)
set_option maxRecDepth 65536 in
theorem w_c1 : (Jvm.Cond.code ({ cls := "com/example/meterwright/meterwright/snapshot/HoldingOfPinLaw", name := "name", desc := "(I)Ljava/lang/String;" } : Jvm.MethodName) method_2_code (3 : Nat) (Option.some (Jvm.ClassFile.FieldType.object "java/lang/String"))).before args0 about1 = true := code_word (m := ⟨1, 1⟩) (meth := k1m1) (c := k1c1) (by decide +kernel) rfl rfl rfl (by decide +kernel)
set_option maxRecDepth 65536 in
theorem w_c2 : (Jvm.Cond.code ({ cls := "java/lang/String", name := "<init>", desc := "([C)V" } : Jvm.MethodName) jdk_42_method_3_code (2 : Nat) (Option.none : Option Jvm.ClassFile.FieldType)).before args0 about1 = true := code_word (m := ⟨7, 1⟩) (meth := k7m1) (c := k7c1) (by decide +kernel) rfl rfl rfl (by decide +kernel)
set_option maxRecDepth 65536 in
theorem w_c3 : (Jvm.Cond.code ({ cls := "java/lang/String", name := "<init>", desc := "([CIILjava/lang/Void;)V" } : Jvm.MethodName) jdk_42_method_149_code (6 : Nat) (Option.none : Option Jvm.ClassFile.FieldType)).before args0 about1 = true := code_word (m := ⟨7, 4⟩) (meth := k7m4) (c := k7c4) (by decide +kernel) rfl rfl rfl (by decide +kernel)
set_option maxRecDepth 65536 in
theorem w_c4 : (Jvm.Cond.code ({ cls := "java/lang/Object", name := "<init>", desc := "()V" } : Jvm.MethodName) object_method_1_code (1 : Nat) (Option.none : Option Jvm.ClassFile.FieldType)).before args0 about1 = true := code_word (m := ⟨0, 0⟩) (meth := k0m0) (c := k0c0) (by decide +kernel) rfl rfl rfl (by decide +kernel)
set_option maxRecDepth 65536 in
theorem w_c5 : (Jvm.Cond.code ({ cls := "java/lang/StringUTF16", name := "compress", desc := "([CII)[B" } : Jvm.MethodName) jdk_52_method_16_code (6 : Nat) (Option.some (Jvm.ClassFile.FieldType.array Jvm.ClassFile.FieldType.byte))).before args0 about1 = true := code_word (m := ⟨8, 2⟩) (meth := k8m2) (c := k8c2) (by decide +kernel) rfl rfl rfl (by decide +kernel)
set_option maxRecDepth 65536 in
theorem w_c6 : (Jvm.Cond.code ({ cls := "java/lang/StringUTF16", name := "compress", desc := "([CI[BII)I" } : Jvm.MethodName) jdk_52_method_21_code (7 : Nat) (Option.some Jvm.ClassFile.FieldType.int)).before args0 about1 = true := code_word (m := ⟨8, 3⟩) (meth := k8m3) (c := k8c3) (by decide +kernel) rfl rfl rfl (by decide +kernel)
set_option maxRecDepth 65536 in
theorem w_c7 : (Jvm.Cond.code ({ cls := "java/lang/StringUTF16", name := "coderFromArrayLen", desc := "([BI)B" } : Jvm.MethodName) jdk_52_method_15_code (2 : Nat) (Option.some Jvm.ClassFile.FieldType.byte)).before args0 about1 = true := code_word (m := ⟨8, 1⟩) (meth := k8m1) (c := k8c1) (by decide +kernel) rfl rfl rfl (by decide +kernel)
set_option maxRecDepth 65536 in
theorem w_c8 : (Jvm.Cond.code ({ cls := "com/example/meterwright/meterwright/usage/UsageRecord", name := "<init>", desc := "(Ljava/time/Instant;Ljava/time/Instant;Ljava/lang/String;Ljava/lang/String;Ljava/lang/String;Ljava/lang/String;Ljava/math/BigDecimal;Lcom/example/meterwright/meterwright/pricing/MeterKind;Z)V" } : Jvm.MethodName) prog_68_method_1_code (10 : Nat) (Option.none : Option Jvm.ClassFile.FieldType)).before args0 about1 = true := code_word (m := ⟨9, 0⟩) (meth := k9m0) (c := k9c0) (by decide +kernel) rfl rfl rfl (by decide +kernel)
set_option maxRecDepth 65536 in
theorem w_c9 : (Jvm.Cond.code ({ cls := "com/example/meterwright/meterwright/usage/UsageRecord", name := "<init>", desc := "(Ljava/time/Instant;Ljava/time/Instant;Ljava/lang/String;Ljava/lang/String;Ljava/lang/String;Ljava/lang/String;Ljava/math/BigDecimal;Lcom/example/meterwright/meterwright/pricing/MeterKind;ZLcom/example/meterwright/meterwright/usage/Attributes;Ljava/lang/String;)V" } : Jvm.MethodName) prog_68_method_2_code (12 : Nat) (Option.none : Option Jvm.ClassFile.FieldType)).before args0 about1 = true := code_word (m := ⟨9, 1⟩) (meth := k9m1) (c := k9c1) (by decide +kernel) rfl rfl rfl (by decide +kernel)
set_option maxRecDepth 65536 in
theorem w_c10 : (Jvm.Cond.code ({ cls := "com/example/meterwright/meterwright/usage/UsageRecord", name := "set", desc := "(Ljava/time/Instant;Ljava/time/Instant;Ljava/lang/String;Ljava/lang/String;Ljava/lang/String;Ljava/lang/String;Ljava/math/BigDecimal;Lcom/example/meterwright/meterwright/pricing/MeterKind;ZLcom/example/meterwright/meterwright/usage/Attributes;Ljava/lang/String;)Lcom/example/meterwright/meterwright/usage/UsageRecord;" } : Jvm.MethodName) prog_68_method_4_code (12 : Nat) (Option.some (Jvm.ClassFile.FieldType.object "com/example/meterwright/meterwright/usage/UsageRecord"))).before args0 about1 = true := code_word (m := ⟨9, 3⟩) (meth := k9m3) (c := k9c3) (by decide +kernel) rfl rfl rfl (by decide +kernel)
set_option maxRecDepth 65536 in
theorem w_c11 : (Jvm.Cond.code ({ cls := "java/time/Instant", name := "isAfter", desc := "(Ljava/time/Instant;)Z" } : Jvm.MethodName) jdk_2320_method_42_code (2 : Nat) (Option.some Jvm.ClassFile.FieldType.boolean)).before args0 about1 = true := code_word (m := ⟨13, 1⟩) (meth := k13m1) (c := k13c1) (by decide +kernel) rfl rfl rfl (by decide +kernel)
set_option maxRecDepth 65536 in
theorem w_c12 : (Jvm.Cond.code ({ cls := "java/time/Instant", name := "compareTo", desc := "(Ljava/time/Instant;)I" } : Jvm.MethodName) jdk_2320_method_41_code (3 : Nat) (Option.some Jvm.ClassFile.FieldType.int)).before args0 about1 = true := code_word (m := ⟨13, 0⟩) (meth := k13m0) (c := k13c0) (by decide +kernel) rfl rfl rfl (by decide +kernel)
set_option maxRecDepth 65536 in
theorem w_c13 : (Jvm.Cond.code ({ cls := "java/lang/Long", name := "compare", desc := "(JJ)I" } : Jvm.MethodName) jdk_35_method_42_code (4 : Nat) (Option.some Jvm.ClassFile.FieldType.int)).before args0 about1 = true := code_word (m := ⟨17, 0⟩) (meth := k17m0) (c := k17c0) (by decide +kernel) rfl rfl rfl (by decide +kernel)
set_option maxRecDepth 65536 in
theorem w_c14 : (Jvm.Cond.code ({ cls := "com/example/meterwright/meterwright/usage/UsageRecord", name := "checkNotEmpty", desc := "(Ljava/lang/String;Ljava/lang/String;)V" } : Jvm.MethodName) prog_68_method_6_code (2 : Nat) (Option.none : Option Jvm.ClassFile.FieldType)).before args0 about1 = true := code_word (m := ⟨9, 4⟩) (meth := k9m4) (c := k9c4) (by decide +kernel) rfl rfl rfl (by decide +kernel)
set_option maxRecDepth 65536 in
theorem w_c15 : (Jvm.Cond.code ({ cls := "java/lang/String", name := "isEmpty", desc := "()Z" } : Jvm.MethodName) jdk_42_method_55_code (1 : Nat) (Option.some Jvm.ClassFile.FieldType.boolean)).before args0 about1 = true := code_word (m := ⟨7, 2⟩) (meth := k7m2) (c := k7c2) (by decide +kernel) rfl rfl rfl (by decide +kernel)
set_option maxRecDepth 65536 in
theorem w_c16 : (Jvm.Cond.code ({ cls := "java/util/Objects", name := "requireNonNull", desc := "(Ljava/lang/Object;Ljava/lang/String;)Ljava/lang/Object;" } : Jvm.MethodName) jdk_31_method_11_code (2 : Nat) (Option.some (Jvm.ClassFile.FieldType.object "java/lang/Object"))).before args0 about1 = true := code_word (m := ⟨18, 1⟩) (meth := k18m1) (c := k18c1) (by decide +kernel) rfl rfl rfl (by decide +kernel)
set_option maxRecDepth 65536 in
theorem w_c17 : (Jvm.Cond.code ({ cls := "com/example/meterwright/meterwright/snapshot/Holding", name := "of", desc := "(Lcom/example/meterwright/meterwright/usage/UsageRecord;)Lcom/example/meterwright/meterwright/snapshot/Holding;" } : Jvm.MethodName) prog_57_method_2_code (1 : Nat) (Option.some (Jvm.ClassFile.FieldType.object "com/example/meterwright/meterwright/snapshot/Holding"))).before args0 about1 = true := code_word (m := ⟨19, 1⟩) (meth := k19m1) (c := k19c1) (by decide +kernel) rfl rfl rfl (by decide +kernel)
set_option maxRecDepth 65536 in
theorem w_c18 : (Jvm.Cond.code ({ cls := "com/example/meterwright/meterwright/usage/UsageRecord", name := "tenant", desc := "()Ljava/lang/String;" } : Jvm.MethodName) prog_68_method_9_code (1 : Nat) (Option.some (Jvm.ClassFile.FieldType.object "java/lang/String"))).before args0 about1 = true := code_word (m := ⟨9, 5⟩) (meth := k9m5) (c := k9c5) (by decide +kernel) rfl rfl rfl (by decide +kernel)
set_option maxRecDepth 65536 in
theorem w_c19 : (Jvm.Cond.code ({ cls := "com/example/meterwright/meterwright/usage/UsageRecord", name := "project", desc := "()Ljava/lang/String;" } : Jvm.MethodName) prog_68_method_10_code (1 : Nat) (Option.some (Jvm.ClassFile.FieldType.object "java/lang/String"))).before args0 about1 = true := code_word (m := ⟨9, 6⟩) (meth := k9m6) (c := k9c6) (by decide +kernel) rfl rfl rfl (by decide +kernel)
set_option maxRecDepth 65536 in
theorem w_c20 : (Jvm.Cond.code ({ cls := "com/example/meterwright/meterwright/usage/UsageRecord", name := "resource", desc := "()Ljava/lang/String;" } : Jvm.MethodName) prog_68_method_11_code (1 : Nat) (Option.some (Jvm.ClassFile.FieldType.object "java/lang/String"))).before args0 about1 = true := code_word (m := ⟨9, 7⟩) (meth := k9m7) (c := k9c7) (by decide +kernel) rfl rfl rfl (by decide +kernel)
set_option maxRecDepth 65536 in
theorem w_c21 : (Jvm.Cond.code ({ cls := "com/example/meterwright/meterwright/usage/UsageRecord", name := "meter", desc := "()Ljava/lang/String;" } : Jvm.MethodName) prog_68_method_12_code (1 : Nat) (Option.some (Jvm.ClassFile.FieldType.object "java/lang/String"))).before args0 about1 = true := code_word (m := ⟨9, 8⟩) (meth := k9m8) (c := k9c8) (by decide +kernel) rfl rfl rfl (by decide +kernel)
set_option maxRecDepth 65536 in
theorem w_c22 : (Jvm.Cond.code ({ cls := "com/example/meterwright/meterwright/snapshot/Holding", name := "<init>", desc := "(Ljava/lang/String;Ljava/lang/String;Ljava/lang/String;Ljava/lang/String;)V" } : Jvm.MethodName) prog_57_method_1_code (5 : Nat) (Option.none : Option Jvm.ClassFile.FieldType)).before args0 about1 = true := code_word (m := ⟨19, 0⟩) (meth := k19m0) (c := k19c0) (by decide +kernel) rfl rfl rfl (by decide +kernel)
set_option maxRecDepth 65536 in
theorem w_c23 : (Jvm.Cond.code ({ cls := "com/example/meterwright/meterwright/snapshot/Holding", name := "tenant", desc := "()Ljava/lang/String;" } : Jvm.MethodName) prog_57_method_3_code (1 : Nat) (Option.some (Jvm.ClassFile.FieldType.object "java/lang/String"))).before args0 about1 = true := code_word (m := ⟨19, 2⟩) (meth := k19m2) (c := k19c2) (by decide +kernel) rfl rfl rfl (by decide +kernel)
set_option maxRecDepth 65536 in
theorem w_c24 : (Jvm.Cond.code ({ cls := "java/lang/String", name := "equals", desc := "(Ljava/lang/Object;)Z" } : Jvm.MethodName) jdk_42_method_66_code (3 : Nat) (Option.some Jvm.ClassFile.FieldType.boolean)).before args0 about1 = true := code_word (m := ⟨7, 3⟩) (meth := k7m3) (c := k7c3) (by decide +kernel) rfl rfl rfl (by decide +kernel)
set_option maxRecDepth 65536 in
theorem w_c25 : (Jvm.Cond.code ({ cls := "com/example/meterwright/meterwright/snapshot/Holding", name := "project", desc := "()Ljava/lang/String;" } : Jvm.MethodName) prog_57_method_4_code (1 : Nat) (Option.some (Jvm.ClassFile.FieldType.object "java/lang/String"))).before args0 about1 = true := code_word (m := ⟨19, 3⟩) (meth := k19m3) (c := k19c3) (by decide +kernel) rfl rfl rfl (by decide +kernel)
set_option maxRecDepth 65536 in
theorem w_c26 : (Jvm.Cond.code ({ cls := "com/example/meterwright/meterwright/snapshot/Holding", name := "resource", desc := "()Ljava/lang/String;" } : Jvm.MethodName) prog_57_method_5_code (1 : Nat) (Option.some (Jvm.ClassFile.FieldType.object "java/lang/String"))).before args0 about1 = true := code_word (m := ⟨19, 4⟩) (meth := k19m4) (c := k19c4) (by decide +kernel) rfl rfl rfl (by decide +kernel)
set_option maxRecDepth 65536 in
theorem w_c27 : (Jvm.Cond.code ({ cls := "com/example/meterwright/meterwright/snapshot/Holding", name := "meter", desc := "()Ljava/lang/String;" } : Jvm.MethodName) prog_57_method_6_code (1 : Nat) (Option.some (Jvm.ClassFile.FieldType.object "java/lang/String"))).before args0 about1 = true := code_word (m := ⟨19, 5⟩) (meth := k19m5) (c := k19c5) (by decide +kernel) rfl rfl rfl (by decide +kernel)
def codes1 : List Jvm.Cond := [Jvm.Cond.code x code maxLocals ret, Jvm.Cond.code ({ cls := "com/example/meterwright/meterwright/snapshot/HoldingOfPinLaw", name := "name", desc := "(I)Ljava/lang/String;" } : Jvm.MethodName) method_2_code (3 : Nat) (Option.some (Jvm.ClassFile.FieldType.object "java/lang/String")), Jvm.Cond.code ({ cls := "java/lang/String", name := "<init>", desc := "([C)V" } : Jvm.MethodName) jdk_42_method_3_code (2 : Nat) (Option.none : Option Jvm.ClassFile.FieldType), Jvm.Cond.code ({ cls := "java/lang/String", name := "<init>", desc := "([CIILjava/lang/Void;)V" } : Jvm.MethodName) jdk_42_method_149_code (6 : Nat) (Option.none : Option Jvm.ClassFile.FieldType), Jvm.Cond.code ({ cls := "java/lang/Object", name := "<init>", desc := "()V" } : Jvm.MethodName) object_method_1_code (1 : Nat) (Option.none : Option Jvm.ClassFile.FieldType), Jvm.Cond.code ({ cls := "java/lang/StringUTF16", name := "compress", desc := "([CII)[B" } : Jvm.MethodName) jdk_52_method_16_code (6 : Nat) (Option.some (Jvm.ClassFile.FieldType.array Jvm.ClassFile.FieldType.byte)), Jvm.Cond.code ({ cls := "java/lang/StringUTF16", name := "compress", desc := "([CI[BII)I" } : Jvm.MethodName) jdk_52_method_21_code (7 : Nat) (Option.some Jvm.ClassFile.FieldType.int), Jvm.Cond.code ({ cls := "java/lang/StringUTF16", name := "coderFromArrayLen", desc := "([BI)B" } : Jvm.MethodName) jdk_52_method_15_code (2 : Nat) (Option.some Jvm.ClassFile.FieldType.byte), Jvm.Cond.code ({ cls := "com/example/meterwright/meterwright/usage/UsageRecord", name := "<init>", desc := "(Ljava/time/Instant;Ljava/time/Instant;Ljava/lang/String;Ljava/lang/String;Ljava/lang/String;Ljava/lang/String;Ljava/math/BigDecimal;Lcom/example/meterwright/meterwright/pricing/MeterKind;Z)V" } : Jvm.MethodName) prog_68_method_1_code (10 : Nat) (Option.none : Option Jvm.ClassFile.FieldType), Jvm.Cond.code ({ cls := "com/example/meterwright/meterwright/usage/UsageRecord", name := "<init>", desc := "(Ljava/time/Instant;Ljava/time/Instant;Ljava/lang/String;Ljava/lang/String;Ljava/lang/String;Ljava/lang/String;Ljava/math/BigDecimal;Lcom/example/meterwright/meterwright/pricing/MeterKind;ZLcom/example/meterwright/meterwright/usage/Attributes;Ljava/lang/String;)V" } : Jvm.MethodName) prog_68_method_2_code (12 : Nat) (Option.none : Option Jvm.ClassFile.FieldType), Jvm.Cond.code ({ cls := "com/example/meterwright/meterwright/usage/UsageRecord", name := "set", desc := "(Ljava/time/Instant;Ljava/time/Instant;Ljava/lang/String;Ljava/lang/String;Ljava/lang/String;Ljava/lang/String;Ljava/math/BigDecimal;Lcom/example/meterwright/meterwright/pricing/MeterKind;ZLcom/example/meterwright/meterwright/usage/Attributes;Ljava/lang/String;)Lcom/example/meterwright/meterwright/usage/UsageRecord;" } : Jvm.MethodName) prog_68_method_4_code (12 : Nat) (Option.some (Jvm.ClassFile.FieldType.object "com/example/meterwright/meterwright/usage/UsageRecord")), Jvm.Cond.code ({ cls := "java/time/Instant", name := "isAfter", desc := "(Ljava/time/Instant;)Z" } : Jvm.MethodName) jdk_2320_method_42_code (2 : Nat) (Option.some Jvm.ClassFile.FieldType.boolean), Jvm.Cond.code ({ cls := "java/time/Instant", name := "compareTo", desc := "(Ljava/time/Instant;)I" } : Jvm.MethodName) jdk_2320_method_41_code (3 : Nat) (Option.some Jvm.ClassFile.FieldType.int), Jvm.Cond.code ({ cls := "java/lang/Long", name := "compare", desc := "(JJ)I" } : Jvm.MethodName) jdk_35_method_42_code (4 : Nat) (Option.some Jvm.ClassFile.FieldType.int), Jvm.Cond.code ({ cls := "com/example/meterwright/meterwright/usage/UsageRecord", name := "checkNotEmpty", desc := "(Ljava/lang/String;Ljava/lang/String;)V" } : Jvm.MethodName) prog_68_method_6_code (2 : Nat) (Option.none : Option Jvm.ClassFile.FieldType), Jvm.Cond.code ({ cls := "java/lang/String", name := "isEmpty", desc := "()Z" } : Jvm.MethodName) jdk_42_method_55_code (1 : Nat) (Option.some Jvm.ClassFile.FieldType.boolean), Jvm.Cond.code ({ cls := "java/util/Objects", name := "requireNonNull", desc := "(Ljava/lang/Object;Ljava/lang/String;)Ljava/lang/Object;" } : Jvm.MethodName) jdk_31_method_11_code (2 : Nat) (Option.some (Jvm.ClassFile.FieldType.object "java/lang/Object")), Jvm.Cond.code ({ cls := "com/example/meterwright/meterwright/snapshot/Holding", name := "of", desc := "(Lcom/example/meterwright/meterwright/usage/UsageRecord;)Lcom/example/meterwright/meterwright/snapshot/Holding;" } : Jvm.MethodName) prog_57_method_2_code (1 : Nat) (Option.some (Jvm.ClassFile.FieldType.object "com/example/meterwright/meterwright/snapshot/Holding")), Jvm.Cond.code ({ cls := "com/example/meterwright/meterwright/usage/UsageRecord", name := "tenant", desc := "()Ljava/lang/String;" } : Jvm.MethodName) prog_68_method_9_code (1 : Nat) (Option.some (Jvm.ClassFile.FieldType.object "java/lang/String")), Jvm.Cond.code ({ cls := "com/example/meterwright/meterwright/usage/UsageRecord", name := "project", desc := "()Ljava/lang/String;" } : Jvm.MethodName) prog_68_method_10_code (1 : Nat) (Option.some (Jvm.ClassFile.FieldType.object "java/lang/String")), Jvm.Cond.code ({ cls := "com/example/meterwright/meterwright/usage/UsageRecord", name := "resource", desc := "()Ljava/lang/String;" } : Jvm.MethodName) prog_68_method_11_code (1 : Nat) (Option.some (Jvm.ClassFile.FieldType.object "java/lang/String")), Jvm.Cond.code ({ cls := "com/example/meterwright/meterwright/usage/UsageRecord", name := "meter", desc := "()Ljava/lang/String;" } : Jvm.MethodName) prog_68_method_12_code (1 : Nat) (Option.some (Jvm.ClassFile.FieldType.object "java/lang/String")), Jvm.Cond.code ({ cls := "com/example/meterwright/meterwright/snapshot/Holding", name := "<init>", desc := "(Ljava/lang/String;Ljava/lang/String;Ljava/lang/String;Ljava/lang/String;)V" } : Jvm.MethodName) prog_57_method_1_code (5 : Nat) (Option.none : Option Jvm.ClassFile.FieldType), Jvm.Cond.code ({ cls := "com/example/meterwright/meterwright/snapshot/Holding", name := "tenant", desc := "()Ljava/lang/String;" } : Jvm.MethodName) prog_57_method_3_code (1 : Nat) (Option.some (Jvm.ClassFile.FieldType.object "java/lang/String")), Jvm.Cond.code ({ cls := "java/lang/String", name := "equals", desc := "(Ljava/lang/Object;)Z" } : Jvm.MethodName) jdk_42_method_66_code (3 : Nat) (Option.some Jvm.ClassFile.FieldType.boolean), Jvm.Cond.code ({ cls := "com/example/meterwright/meterwright/snapshot/Holding", name := "project", desc := "()Ljava/lang/String;" } : Jvm.MethodName) prog_57_method_4_code (1 : Nat) (Option.some (Jvm.ClassFile.FieldType.object "java/lang/String")), Jvm.Cond.code ({ cls := "com/example/meterwright/meterwright/snapshot/Holding", name := "resource", desc := "()Ljava/lang/String;" } : Jvm.MethodName) prog_57_method_5_code (1 : Nat) (Option.some (Jvm.ClassFile.FieldType.object "java/lang/String")), Jvm.Cond.code ({ cls := "com/example/meterwright/meterwright/snapshot/Holding", name := "meter", desc := "()Ljava/lang/String;" } : Jvm.MethodName) prog_57_method_6_code (1 : Nat) (Option.some (Jvm.ClassFile.FieldType.object "java/lang/String"))]
set_option maxRecDepth 65536 in
theorem codes_eq : words1.filter isCode = codes1 := rfl
theorem w_codes : ∀ c ∈ words1.filter isCode, c.before args0 about1 = true := by
  rw [codes_eq]
  intro c hc
  simp only [codes1, List.mem_cons, List.not_mem_nil, or_false] at hc
  rcases hc with rfl | rfl | rfl | rfl | rfl | rfl | rfl | rfl | rfl | rfl | rfl | rfl | rfl | rfl | rfl | rfl | rfl | rfl | rfl | rfl | rfl | rfl | rfl | rfl | rfl | rfl | rfl | rfl
  · exact w_c0
  · exact w_c1
  · exact w_c2
  · exact w_c3
  · exact w_c4
  · exact w_c5
  · exact w_c6
  · exact w_c7
  · exact w_c8
  · exact w_c9
  · exact w_c10
  · exact w_c11
  · exact w_c12
  · exact w_c13
  · exact w_c14
  · exact w_c15
  · exact w_c16
  · exact w_c17
  · exact w_c18
  · exact w_c19
  · exact w_c20
  · exact w_c21
  · exact w_c22
  · exact w_c23
  · exact w_c24
  · exact w_c25
  · exact w_c26
  · exact w_c27
set_option maxRecDepth 65536 in
theorem w_t1 : (words1.take 24).all (fun c => isCode c || c.before args0 about1) = true := by decide +kernel
set_option maxRecDepth 65536 in
theorem w_t2 : ((words1.drop 24).take 24).all (fun c => isCode c || c.before args0 about1) = true := by decide +kernel
set_option maxRecDepth 65536 in
theorem w_t3 : (((words1.drop 24).drop 24).take 24).all (fun c => isCode c || c.before args0 about1) = true := by decide +kernel
set_option maxRecDepth 65536 in
theorem w_t4 : ((((words1.drop 24).drop 24).drop 24).take 24).all (fun c => isCode c || c.before args0 about1) = true := by decide +kernel
set_option maxRecDepth 65536 in
theorem w_t5 : (((((words1.drop 24).drop 24).drop 24).drop 24).take 24).all (fun c => isCode c || c.before args0 about1) = true := by decide +kernel
set_option maxRecDepth 65536 in
theorem w_t6 : ((((((words1.drop 24).drop 24).drop 24).drop 24).drop 24).take 24).all (fun c => isCode c || c.before args0 about1) = true := by decide +kernel
set_option maxRecDepth 65536 in
theorem w_t7 : (((((((words1.drop 24).drop 24).drop 24).drop 24).drop 24).drop 24).take 24).all (fun c => isCode c || c.before args0 about1) = true := by decide +kernel
set_option maxRecDepth 65536 in
theorem w_t8 : (((((((words1.drop 24).drop 24).drop 24).drop 24).drop 24).drop 24).drop 24).all (fun c => isCode c || c.before args0 about1) = true := by decide +kernel
theorem w_tables : (allAtoms (Jvm.Cond.code x code maxLocals ret :: tables_1)).before args0 about1 = true := by
  rw [allAtoms_all]
  show words1.all (fun c => c.before args0 about1) = true
  refine all_split ?_ w_codes
  rw [← List.take_append_drop 24 words1, List.all_append, w_t1, ← List.take_append_drop 24 (words1.drop 24), List.all_append, w_t2, ← List.take_append_drop 24 ((words1.drop 24).drop 24), List.all_append, w_t3, ← List.take_append_drop 24 (((words1.drop 24).drop 24).drop 24), List.all_append, w_t4, ← List.take_append_drop 24 ((((words1.drop 24).drop 24).drop 24).drop 24), List.all_append, w_t5, ← List.take_append_drop 24 (((((words1.drop 24).drop 24).drop 24).drop 24).drop 24), List.all_append, w_t6, ← List.take_append_drop 24 ((((((words1.drop 24).drop 24).drop 24).drop 24).drop 24).drop 24), List.all_append, w_t7, w_t8]
  rfl
set_option maxRecDepth 65536 in
theorem w_rest : rest_1_c.before args0 about1 = true := by decide +kernel
set_option maxRecDepth 65536 in
theorem w_case : (Jvm.Cond.and given_1 narrow_1).before args0 about1 = true := by decide +kernel
theorem w_applies : (headSpec (Jvm.Cond.code x code maxLocals ret :: tables_1) room_1).applies x e0.platform about1 = true :=
  (Spec.applies_iff w_frames).mpr ⟨w_running, w_runnable, w_alone, w_named, w_hears, w_ripe, w_room, w_tables⟩
theorem atStart : AtStart classFile x code maxLocals ret World_1 tables_1 room_1 Calls_1 rest_1 Pre_1 launch0 p0 e0 about1 theMethod args0 below0 :=
  ⟨lists_1, trivial, launch0.admits_env _ _ _, launch0.least_env, fairChoices_fair.cas, fairChoices_fair.clock, w_frames, w_args, w_heap, w_applies, trivial, w_rest, w_case⟩
end start1
theorem witness_1 : WitnessClaimed_1 := ⟨start1.p0, start1.e0, start1.about1, start1.theMethod, start1.args0, start1.below0, start1.atStart⟩
end Jvm.Pilot.@@N@@
