import JvmDerived
import JvmDerived.Pilot.@@N@@Statement
import JvmDerived.Pilot.@@N@@Code
set_option linter.unusedVariables false
set_option linter.unusedSimpArgs false
@@BLOCK:NumsL.lean.txt@@
namespace Jvm.RoadKit
open Sem ClassFile Op Lib Jvm.Stand Jvm.Free Jvm.LawKit
/-- from U the run comes to an end of the invocation at which P holds -/
def Wp (p : Program) (e : Env) (below : List Frame) (P : State → Outcome → Prop) (U : State) : Prop :=
  ∃ s₂ o, Steps p.tables e below U s₂ ∧ s₂.status = .running ∧ Ended s₂ below o ∧ P s₂ o
theorem Wp.of {p : Program} {e : Env} {below : List Frame} {P : State → Outcome → Prop} {U U' : State} (f : ∀ t, Steps p.tables e below U' t → Steps p.tables e below U t) (k : Wp p e below P U') : Wp p e below P U := by
  obtain ⟨s2, o, a, b⟩ := k; exact ⟨s2, o, f _ a, b⟩
theorem Wp.tr {p : Program} {e : Env} {below : List Frame} {P : State → Outcome → Prop} {U U' : State} (f : Steps p.tables e below U U') (k : Wp p e below P U') : Wp p e below P U := by
  obtain ⟨s2, o, a, b⟩ := k; exact ⟨s2, o, f.trans a, b⟩
theorem Wp.cast {p : Program} {e : Env} {below : List Frame} {P : State → Outcome → Prop} {T : State} {g g' : JFrame} (q : g = g') (k : Wp p e below P (T.setTop g')) : Wp p e below P (T.setTop g) := q ▸ k
/-- where the walk stands: the library's Stand, what stays the same throughout a body, the heap, that only new places were written, that the start's cells are as they were -/
def Sd (Z : State) (n0 kk : Nat) (code : ByteArray) (ml : Nat) (own nm : String) (ret : Option FieldType) (h : Heap) (p : Program) (l : Launch) (e : Env) (R : Room) (s : State) (m : MethodId) (args : Array Value) (below : List Frame) (meth : Method) (c : Code) (T : State) (locs : List Loc) (cells slots : Nat) : Prop :=
  Stand p l e R s m args below meth c T locs cells slots ∧ (p.tables.exec = Jvm.exec ∧ c.code = code ∧ c.maxLocals = ml ∧ s.vm.findClass own = some m.cls ∧ Z.Warmed39 s.vm ∧ meth.sig.returnType = ret ∧ meth.name = nm ∧ meth.locks = false) ∧ T.heap = h ∧ Fr n0 locs ∧ Old Z n0 h ∧ kk ≤ h.size
/-- an instruction of n bytes and the pc behind it -/
def Dc (code : ByteArray) (pc : Nat) (i : Instr) (n pc' : Nat) : Prop := decode code pc = .ok (i, n) ∧ pc + n = pc'
/-- a branch of three bytes, its target and the pc behind it -/
def Bc (code : ByteArray) (pc : Nat) (f : Int → Instr) (t pc' : Nat) : Prop := ∃ o, decode code pc = .ok (f o, 3) ∧ 0 ≤ (pc : Int) + o ∧ ((pc : Int) + o).toNat = t ∧ pc + 3 = pc'

section Sd
variable {Z : State} {n0 kk : Nat} {code : ByteArray} {ml : Nat} {own nm : String} {ret : Option FieldType} {h : Heap} {p : Program} {l : Launch} {e : Env} {R : Room} {s : State} {m : MethodId} {args : Array Value} {below : List Frame} {meth : Method} {c : Code} {T : State} {locs : List Loc} {cells slots : Nat} {P : State → Outcome → Prop} {a0 : Array Value}
theorem Sd.st (X : Sd Z n0 kk code ml own nm ret h p l e R s m args below meth c T locs cells slots) : Stand p l e R s m args below meth c T locs cells slots := X.1
theorem Sd.hx (X : Sd Z n0 kk code ml own nm ret h p l e R s m args below meth c T locs cells slots) : p.tables.exec = Jvm.exec := X.2.1.1
theorem Sd.hb (X : Sd Z n0 kk code ml own nm ret h p l e R s m args below meth c T locs cells slots) {pc : Nat} {r : Except DecodeError (Instr × Nat)} (q : decode code pc = r) : decode c.code pc = r := X.2.1.2.1 ▸ q
theorem Sd.hml (X : Sd Z n0 kk code ml own nm ret h p l e R s m args below meth c T locs cells slots) : c.maxLocals = ml := X.2.1.2.2.1
theorem Sd.hown (X : Sd Z n0 kk code ml own nm ret h p l e R s m args below meth c T locs cells slots) : s.vm.findClass own = some m.cls := X.2.1.2.2.2.1
theorem Sd.hZ (X : Sd Z n0 kk code ml own nm ret h p l e R s m args below meth c T locs cells slots) : Z.Warmed39 s.vm := X.2.1.2.2.2.2.1
theorem Sd.hret (X : Sd Z n0 kk code ml own nm ret h p l e R s m args below meth c T locs cells slots) : meth.sig.returnType = ret := X.2.1.2.2.2.2.2.1
theorem Sd.hnm (X : Sd Z n0 kk code ml own nm ret h p l e R s m args below meth c T locs cells slots) : meth.name = nm := X.2.1.2.2.2.2.2.2.1
theorem Sd.hlk (X : Sd Z n0 kk code ml own nm ret h p l e R s m args below meth c T locs cells slots) : meth.locks = false := X.2.1.2.2.2.2.2.2.2
theorem Sd.eh (X : Sd Z n0 kk code ml own nm ret h p l e R s m args below meth c T locs cells slots) : T.heap = h := X.2.2.1
theorem Sd.fr (X : Sd Z n0 kk code ml own nm ret h p l e R s m args below meth c T locs cells slots) : Fr n0 locs := X.2.2.2.1
theorem Sd.old (X : Sd Z n0 kk code ml own nm ret h p l e R s m args below meth c T locs cells slots) : Old Z n0 h := X.2.2.2.2.1
theorem Sd.hkk (X : Sd Z n0 kk code ml own nm ret h p l e R s m args below meth c T locs cells slots) : kk ≤ h.size := X.2.2.2.2.2
theorem Sd.mk' {h' : Heap} {T' : State} {locs' : List Loc} {c' s' : Nat} (X : Sd Z n0 kk code ml own nm ret h p l e R s m args below meth c T locs cells slots) (Y : Stand p l e R s m args below meth c T' locs' c' s') (q1 : T'.heap = h') (q2 : Fr n0 locs') (q3 : Old Z n0 h') (q4 : h.size ≤ h'.size) : Sd Z n0 kk code ml own nm ret h' p l e R s m args below meth c T' locs' c' s' := ⟨Y, X.2.1, q1, q2, q3, Nat.le_trans X.hkk q4⟩
end Sd
section Steps
variable {Z : State} {n0 kk : Nat} {code : ByteArray} {ml : Nat} {own nm : String} {ret : Option FieldType} {h : Heap} {p : Program} {l : Launch} {e : Env} {R : Room} {s : State} {m : MethodId} {args : Array Value} {below : List Frame} {meth : Method} {c : Code} {T : State} {locs : List Loc} {cells slots : Nat} {P : State → Outcome → Prop} {a0 : Array Value} {pc pc' : Nat} {L : Array Slot} {S : List Value}
theorem w_iloadN (X : Sd Z n0 kk code ml own nm ret h p l e R s m args below meth c T locs cells slots) {k : Fin 4} {v : Int32} (hd : Dc code pc (.iload_n k) 1 pc') (hl : L[k.val]? = some (.val (.int v))) (K : Wp p e below P (T.setTop (mkF m pc' L (.int v :: S)))) : Wp p e below P (T.setTop (mkF m pc L S)) := by
  obtain ⟨hd, rfl⟩ := hd
  exact Wp.of (fun _ k => XS.iloadN X.st.here X.hx rfl (X.hb hd) hl k) K
theorem w_iload (X : Sd Z n0 kk code ml own nm ret h p l e R s m args below meth c T locs cells slots) {k : Nat} {v : Int32} (hd : Dc code pc (.iload k) 2 pc') (hl : L[k]? = some (.val (.int v))) (K : Wp p e below P (T.setTop (mkF m pc' L (.int v :: S)))) : Wp p e below P (T.setTop (mkF m pc L S)) := by
  obtain ⟨hd, rfl⟩ := hd
  exact Wp.of (fun _ k => XS.iload X.st.here X.hx rfl (X.hb hd) hl k) K
theorem w_lloadN (X : Sd Z n0 kk code ml own nm ret h p l e R s m args below meth c T locs cells slots) {k : Fin 4} {v : Int64} (hd : Dc code pc (.lload_n k) 1 pc') (hl : L[k.val]? = some (.val (.long v))) (K : Wp p e below P (T.setTop (mkF m pc' L (.long v :: S)))) : Wp p e below P (T.setTop (mkF m pc L S)) := by
  obtain ⟨hd, rfl⟩ := hd
  exact Wp.of (fun _ k => XS.lloadN X.st.here X.hx rfl (X.hb hd) hl k) K
theorem w_lload (X : Sd Z n0 kk code ml own nm ret h p l e R s m args below meth c T locs cells slots) {k : Nat} {v : Int64} (hd : Dc code pc (.lload k) 2 pc') (hl : L[k]? = some (.val (.long v))) (K : Wp p e below P (T.setTop (mkF m pc' L (.long v :: S)))) : Wp p e below P (T.setTop (mkF m pc L S)) := by
  obtain ⟨hd, rfl⟩ := hd
  exact Wp.of (fun _ k => XS.lload X.st.here X.hx rfl (X.hb hd) hl k) K
theorem w_aloadN (X : Sd Z n0 kk code ml own nm ret h p l e R s m args below meth c T locs cells slots) {k : Fin 4} {v : Value} (hd : Dc code pc (.aload_n k) 1 pc') (hl : L[k.val]? = some (.val v)) (hv : v.isRef = true) (K : Wp p e below P (T.setTop (mkF m pc' L (v :: S)))) : Wp p e below P (T.setTop (mkF m pc L S)) := by
  obtain ⟨hd, rfl⟩ := hd
  exact Wp.of (fun _ k => XS.aloadN X.st.here X.hx rfl (X.hb hd) hl hv k) K
theorem w_aload (X : Sd Z n0 kk code ml own nm ret h p l e R s m args below meth c T locs cells slots) {k : Nat} {v : Value} (hd : Dc code pc (.aload k) 2 pc') (hl : L[k]? = some (.val v)) (hv : v.isRef = true) (K : Wp p e below P (T.setTop (mkF m pc' L (v :: S)))) : Wp p e below P (T.setTop (mkF m pc L S)) := by
  obtain ⟨hd, rfl⟩ := hd
  exact Wp.of (fun _ k => XS.aload X.st.here X.hx rfl (X.hb hd) hl hv k) K
theorem w_istoreN (X : Sd Z n0 kk code ml own nm ret h p l e R s m args below meth c T locs cells slots) {k : Fin 4} {v : Int32} (L' : Array Slot) (hd : Dc code pc (.istore_n k) 1 pc') (hl : storeLocals L k.val (.int v) = some L') (K : Wp p e below P (T.setTop (mkF m pc' L' S))) : Wp p e below P (T.setTop (mkF m pc L (.int v :: S))) := by
  obtain ⟨hd, rfl⟩ := hd
  exact Wp.of (fun _ k => XS.istoreN X.st.here X.hx rfl (X.hb hd) rfl hl k) K
theorem w_istore (X : Sd Z n0 kk code ml own nm ret h p l e R s m args below meth c T locs cells slots) {k : Nat} {v : Int32} (L' : Array Slot) (hd : Dc code pc (.istore k) 2 pc') (hl : storeLocals L k (.int v) = some L') (K : Wp p e below P (T.setTop (mkF m pc' L' S))) : Wp p e below P (T.setTop (mkF m pc L (.int v :: S))) := by
  obtain ⟨hd, rfl⟩ := hd
  exact Wp.of (fun _ k => XS.istore X.st.here X.hx rfl (X.hb hd) rfl hl k) K
theorem w_lstoreN (X : Sd Z n0 kk code ml own nm ret h p l e R s m args below meth c T locs cells slots) {k : Fin 4} {v : Int64} (L' : Array Slot) (hd : Dc code pc (.lstore_n k) 1 pc') (hl : storeLocals L k.val (.long v) = some L') (K : Wp p e below P (T.setTop (mkF m pc' L' S))) : Wp p e below P (T.setTop (mkF m pc L (.long v :: S))) := by
  obtain ⟨hd, rfl⟩ := hd
  exact Wp.of (fun _ k => XS.lstoreN X.st.here X.hx rfl (X.hb hd) rfl hl k) K
theorem w_lstore (X : Sd Z n0 kk code ml own nm ret h p l e R s m args below meth c T locs cells slots) {k : Nat} {v : Int64} (L' : Array Slot) (hd : Dc code pc (.lstore k) 2 pc') (hl : storeLocals L k (.long v) = some L') (K : Wp p e below P (T.setTop (mkF m pc' L' S))) : Wp p e below P (T.setTop (mkF m pc L (.long v :: S))) := by
  obtain ⟨hd, rfl⟩ := hd
  exact Wp.of (fun _ k => XS.lstore X.st.here X.hx rfl (X.hb hd) rfl hl k) K
theorem w_astoreN (X : Sd Z n0 kk code ml own nm ret h p l e R s m args below meth c T locs cells slots) {k : Fin 4} {v : Value} (L' : Array Slot) (hd : Dc code pc (.astore_n k) 1 pc') (hv : v.isRef = true) (hl : storeLocals L k.val v = some L') (K : Wp p e below P (T.setTop (mkF m pc' L' S))) : Wp p e below P (T.setTop (mkF m pc L (v :: S))) := by
  obtain ⟨hd, rfl⟩ := hd
  exact Wp.of (fun _ k => XS.astoreN X.st.here X.hx rfl (X.hb hd) rfl hv hl k) K
theorem w_astore (X : Sd Z n0 kk code ml own nm ret h p l e R s m args below meth c T locs cells slots) {k : Nat} {v : Value} (L' : Array Slot) (hd : Dc code pc (.astore k) 2 pc') (hv : v.isRef = true) (hl : storeLocals L k v = some L') (K : Wp p e below P (T.setTop (mkF m pc' L' S))) : Wp p e below P (T.setTop (mkF m pc L (v :: S))) := by
  obtain ⟨hd, rfl⟩ := hd
  exact Wp.of (fun _ k => XS.astore X.st.here X.hx rfl (X.hb hd) rfl hv hl k) K
theorem w_iinc (X : Sd Z n0 kk code ml own nm ret h p l e R s m args below meth c T locs cells slots) {k : Nat} {q : Int} {v : Int32} (z : Int32) (L' : Array Slot) (hd : Dc code pc (.iinc k q) 3 pc') (hq : Int32.ofInt q = z) (hg : L[k]? = some (.val (.int v))) (hl : storeLocals L k (.int (v + z)) = some L') (K : Wp p e below P (T.setTop (mkF m pc' L' S))) : Wp p e below P (T.setTop (mkF m pc L S)) := by
  obtain ⟨hd, rfl⟩ := hd
  exact Wp.of (fun _ k => XS.iinc X.st.here X.hx rfl (X.hb hd) hg (hq ▸ hl) k) K
theorem w_iconst (X : Sd Z n0 kk code ml own nm ret h p l e R s m args below meth c T locs cells slots) {i : Int} (v : Int32) (hd : Dc code pc (.iconst i) 1 pc') (hv : Int32.ofInt i = v) (K : Wp p e below P (T.setTop (mkF m pc' L (.int v :: S)))) : Wp p e below P (T.setTop (mkF m pc L S)) := by
  obtain ⟨hd, rfl⟩ := hd
  exact Wp.of (fun _ k => XS.iconst X.st.here X.hx rfl (X.hb hd) (by rw [hv]; exact k)) K
theorem w_bipush (X : Sd Z n0 kk code ml own nm ret h p l e R s m args below meth c T locs cells slots) {i : Int} (v : Int32) (hd : Dc code pc (.bipush i) 2 pc') (hv : (Int8.ofInt i).toInt32 = v) (K : Wp p e below P (T.setTop (mkF m pc' L (.int v :: S)))) : Wp p e below P (T.setTop (mkF m pc L S)) := by
  obtain ⟨hd, rfl⟩ := hd
  exact Wp.of (fun _ k => XS.bipush X.st.here X.hx rfl (X.hb hd) (by rw [hv]; exact k)) K
theorem w_sipush (X : Sd Z n0 kk code ml own nm ret h p l e R s m args below meth c T locs cells slots) {i : Int} (v : Int32) (hd : Dc code pc (.sipush i) 3 pc') (hv : (Int16.ofInt i).toInt32 = v) (K : Wp p e below P (T.setTop (mkF m pc' L (.int v :: S)))) : Wp p e below P (T.setTop (mkF m pc L S)) := by
  obtain ⟨hd, rfl⟩ := hd
  exact Wp.of (fun _ k => XS.sipush X.st.here X.hx rfl (X.hb hd) (by rw [hv]; exact k)) K
theorem w_lconst (X : Sd Z n0 kk code ml own nm ret h p l e R s m args below meth c T locs cells slots) {i : Fin 2} (v : Int64) (hd : Dc code pc (.lconst i) 1 pc') (hv : Int64.ofNat i = v) (K : Wp p e below P (T.setTop (mkF m pc' L (.long v :: S)))) : Wp p e below P (T.setTop (mkF m pc L S)) := by
  obtain ⟨hd, rfl⟩ := hd
  exact Wp.of (fun _ k => XS.lconst X.st.here X.hx rfl (X.hb hd) (by rw [hv]; exact k)) K
theorem w_aconstNull (X : Sd Z n0 kk code ml own nm ret h p l e R s m args below meth c T locs cells slots)  (hd : Dc code pc (.aconst_null) 1 pc')  (K : Wp p e below P (T.setTop (mkF m pc' L (.null :: S)))) : Wp p e below P (T.setTop (mkF m pc L S)) := by
  obtain ⟨hd, rfl⟩ := hd
  exact Wp.of (fun _ k => XS.aconstNull X.st.here X.hx rfl (X.hb hd) k) K
theorem w_iadd (X : Sd Z n0 kk code ml own nm ret h p l e R s m args below meth c T locs cells slots) {x y : Int32} (hd : Dc code pc (.iadd) 1 pc')  (K : Wp p e below P (T.setTop (mkF m pc' L (.int (x + y) :: S)))) : Wp p e below P (T.setTop (mkF m pc L (.int y :: .int x :: S))) := by
  obtain ⟨hd, rfl⟩ := hd
  exact Wp.of (fun _ k => XS.iadd X.st.here X.hx rfl (X.hb hd) rfl k) K
theorem w_ladd (X : Sd Z n0 kk code ml own nm ret h p l e R s m args below meth c T locs cells slots) {x y : Int64} (hd : Dc code pc (.ladd) 1 pc')  (K : Wp p e below P (T.setTop (mkF m pc' L (.long (x + y) :: S)))) : Wp p e below P (T.setTop (mkF m pc L (.long y :: .long x :: S))) := by
  obtain ⟨hd, rfl⟩ := hd
  exact Wp.of (fun _ k => XS.ladd X.st.here X.hx rfl (X.hb hd) rfl k) K
theorem w_isub (X : Sd Z n0 kk code ml own nm ret h p l e R s m args below meth c T locs cells slots) {x y : Int32} (hd : Dc code pc (.isub) 1 pc')  (K : Wp p e below P (T.setTop (mkF m pc' L (.int (x - y) :: S)))) : Wp p e below P (T.setTop (mkF m pc L (.int y :: .int x :: S))) := by
  obtain ⟨hd, rfl⟩ := hd
  exact Wp.of (fun _ k => XS.isub X.st.here X.hx rfl (X.hb hd) rfl k) K
theorem w_lsub (X : Sd Z n0 kk code ml own nm ret h p l e R s m args below meth c T locs cells slots) {x y : Int64} (hd : Dc code pc (.lsub) 1 pc')  (K : Wp p e below P (T.setTop (mkF m pc' L (.long (x - y) :: S)))) : Wp p e below P (T.setTop (mkF m pc L (.long y :: .long x :: S))) := by
  obtain ⟨hd, rfl⟩ := hd
  exact Wp.of (fun _ k => XS.lsub X.st.here X.hx rfl (X.hb hd) rfl k) K
theorem w_imul (X : Sd Z n0 kk code ml own nm ret h p l e R s m args below meth c T locs cells slots) {x y : Int32} (hd : Dc code pc (.imul) 1 pc')  (K : Wp p e below P (T.setTop (mkF m pc' L (.int (x * y) :: S)))) : Wp p e below P (T.setTop (mkF m pc L (.int y :: .int x :: S))) := by
  obtain ⟨hd, rfl⟩ := hd
  exact Wp.of (fun _ k => XS.imul X.st.here X.hx rfl (X.hb hd) rfl k) K
theorem w_lmul (X : Sd Z n0 kk code ml own nm ret h p l e R s m args below meth c T locs cells slots) {x y : Int64} (hd : Dc code pc (.lmul) 1 pc')  (K : Wp p e below P (T.setTop (mkF m pc' L (.long (x * y) :: S)))) : Wp p e below P (T.setTop (mkF m pc L (.long y :: .long x :: S))) := by
  obtain ⟨hd, rfl⟩ := hd
  exact Wp.of (fun _ k => XS.lmul X.st.here X.hx rfl (X.hb hd) rfl k) K
theorem w_iand (X : Sd Z n0 kk code ml own nm ret h p l e R s m args below meth c T locs cells slots) {x y : Int32} (hd : Dc code pc (.iand) 1 pc')  (K : Wp p e below P (T.setTop (mkF m pc' L (.int (x &&& y) :: S)))) : Wp p e below P (T.setTop (mkF m pc L (.int y :: .int x :: S))) := by
  obtain ⟨hd, rfl⟩ := hd
  exact Wp.of (fun _ k => XS.iand X.st.here X.hx rfl (X.hb hd) rfl k) K
theorem w_land (X : Sd Z n0 kk code ml own nm ret h p l e R s m args below meth c T locs cells slots) {x y : Int64} (hd : Dc code pc (.land) 1 pc')  (K : Wp p e below P (T.setTop (mkF m pc' L (.long (x &&& y) :: S)))) : Wp p e below P (T.setTop (mkF m pc L (.long y :: .long x :: S))) := by
  obtain ⟨hd, rfl⟩ := hd
  exact Wp.of (fun _ k => XS.land X.st.here X.hx rfl (X.hb hd) rfl k) K
theorem w_ior (X : Sd Z n0 kk code ml own nm ret h p l e R s m args below meth c T locs cells slots) {x y : Int32} (hd : Dc code pc (.ior) 1 pc')  (K : Wp p e below P (T.setTop (mkF m pc' L (.int (x ||| y) :: S)))) : Wp p e below P (T.setTop (mkF m pc L (.int y :: .int x :: S))) := by
  obtain ⟨hd, rfl⟩ := hd
  exact Wp.of (fun _ k => XS.ior X.st.here X.hx rfl (X.hb hd) rfl k) K
theorem w_lor (X : Sd Z n0 kk code ml own nm ret h p l e R s m args below meth c T locs cells slots) {x y : Int64} (hd : Dc code pc (.lor) 1 pc')  (K : Wp p e below P (T.setTop (mkF m pc' L (.long (x ||| y) :: S)))) : Wp p e below P (T.setTop (mkF m pc L (.long y :: .long x :: S))) := by
  obtain ⟨hd, rfl⟩ := hd
  exact Wp.of (fun _ k => XS.lor X.st.here X.hx rfl (X.hb hd) rfl k) K
theorem w_ixor (X : Sd Z n0 kk code ml own nm ret h p l e R s m args below meth c T locs cells slots) {x y : Int32} (hd : Dc code pc (.ixor) 1 pc')  (K : Wp p e below P (T.setTop (mkF m pc' L (.int (x ^^^ y) :: S)))) : Wp p e below P (T.setTop (mkF m pc L (.int y :: .int x :: S))) := by
  obtain ⟨hd, rfl⟩ := hd
  exact Wp.of (fun _ k => XS.ixor X.st.here X.hx rfl (X.hb hd) rfl k) K
theorem w_lxor (X : Sd Z n0 kk code ml own nm ret h p l e R s m args below meth c T locs cells slots) {x y : Int64} (hd : Dc code pc (.lxor) 1 pc')  (K : Wp p e below P (T.setTop (mkF m pc' L (.long (x ^^^ y) :: S)))) : Wp p e below P (T.setTop (mkF m pc L (.long y :: .long x :: S))) := by
  obtain ⟨hd, rfl⟩ := hd
  exact Wp.of (fun _ k => XS.lxor X.st.here X.hx rfl (X.hb hd) rfl k) K
theorem w_ineg (X : Sd Z n0 kk code ml own nm ret h p l e R s m args below meth c T locs cells slots) {x : Int32} (hd : Dc code pc (.ineg) 1 pc')  (K : Wp p e below P (T.setTop (mkF m pc' L (.int (-x) :: S)))) : Wp p e below P (T.setTop (mkF m pc L (.int x :: S))) := by
  obtain ⟨hd, rfl⟩ := hd
  exact Wp.of (fun _ k => XS.ineg X.st.here X.hx rfl (X.hb hd) rfl k) K
theorem w_lneg (X : Sd Z n0 kk code ml own nm ret h p l e R s m args below meth c T locs cells slots) {x : Int64} (hd : Dc code pc (.lneg) 1 pc')  (K : Wp p e below P (T.setTop (mkF m pc' L (.long (-x) :: S)))) : Wp p e below P (T.setTop (mkF m pc L (.long x :: S))) := by
  obtain ⟨hd, rfl⟩ := hd
  exact Wp.of (fun _ k => XS.lneg X.st.here X.hx rfl (X.hb hd) rfl k) K
theorem w_idiv (X : Sd Z n0 kk code ml own nm ret h p l e R s m args below meth c T locs cells slots) {x y : Int32} (hd : Dc code pc (.idiv) 1 pc') (hy : ¬ y = 0) (K : Wp p e below P (T.setTop (mkF m pc' L (.int (x / y) :: S)))) : Wp p e below P (T.setTop (mkF m pc L (.int y :: .int x :: S))) := by
  obtain ⟨hd, rfl⟩ := hd
  exact Wp.of (fun _ k => XS.idiv X.st.here X.hx rfl (X.hb hd) rfl hy k) K
theorem w_ldiv (X : Sd Z n0 kk code ml own nm ret h p l e R s m args below meth c T locs cells slots) {x y : Int64} (hd : Dc code pc (.ldiv) 1 pc') (hy : ¬ y = 0) (K : Wp p e below P (T.setTop (mkF m pc' L (.long (x / y) :: S)))) : Wp p e below P (T.setTop (mkF m pc L (.long y :: .long x :: S))) := by
  obtain ⟨hd, rfl⟩ := hd
  exact Wp.of (fun _ k => XS.ldiv X.st.here X.hx rfl (X.hb hd) rfl hy k) K
theorem own_irem (x y : Int32) : x - (x / y) * y = x % y := by
  apply Int32.toInt_inj.mp
  have h1 := Int32.le_toInt (x % y)
  have h2 := Int32.toInt_lt (x % y)
  rw [Int32.toInt_mod] at h1 h2 ⊢
  rw [Int32.toInt_sub, Int32.toInt_mul, Int32.toInt_div, Int.bmod_mul_bmod, Int.sub_bmod_bmod]
  have e : x.toInt - x.toInt.tdiv y.toInt * y.toInt = x.toInt.tmod y.toInt := by rw [Int.mul_comm]; exact (Int.tmod_def _ _).symm
  rw [e, Int.bmod_eq_of_le (by omega) (by omega)]
theorem w_irem (X : Sd Z n0 kk code ml own nm ret h p l e R s m args below meth c T locs cells slots) {x y : Int32} (hd : Dc code pc (.irem) 1 pc') (hy : ¬ y = 0) (K : Wp p e below P (T.setTop (mkF m pc' L (.int (x % y) :: S)))) : Wp p e below P (T.setTop (mkF m pc L (.int y :: .int x :: S))) := by
  obtain ⟨hd, rfl⟩ := hd
  exact Wp.of (fun _ k => XS.irem X.st.here X.hx rfl (X.hb hd) rfl hy (by rw [own_irem]; exact k)) K
theorem w_lrem (X : Sd Z n0 kk code ml own nm ret h p l e R s m args below meth c T locs cells slots) {x y : Int64} (hd : Dc code pc (.lrem) 1 pc') (hy : ¬ y = 0) (K : Wp p e below P (T.setTop (mkF m pc' L (.long (x % y) :: S)))) : Wp p e below P (T.setTop (mkF m pc L (.long y :: .long x :: S))) := by
  obtain ⟨hd, rfl⟩ := hd
  exact Wp.of (fun _ k => XS.lrem X.st.here X.hx rfl (X.hb hd) rfl hy (by rw [lrem_mod]; exact k)) K
theorem w_ishl (X : Sd Z n0 kk code ml own nm ret h p l e R s m args below meth c T locs cells slots) {x y : Int32} (hd : Dc code pc (.ishl) 1 pc')  (K : Wp p e below P (T.setTop (mkF m pc' L (.int (x <<< (y &&& 31)) :: S)))) : Wp p e below P (T.setTop (mkF m pc L (.int y :: .int x :: S))) := by
  obtain ⟨hd, rfl⟩ := hd
  exact Wp.of (fun _ k => XS.ishl X.st.here X.hx rfl (X.hb hd) rfl k) K
theorem w_ishr (X : Sd Z n0 kk code ml own nm ret h p l e R s m args below meth c T locs cells slots) {x y : Int32} (hd : Dc code pc (.ishr) 1 pc')  (K : Wp p e below P (T.setTop (mkF m pc' L (.int (x >>> (y &&& 31)) :: S)))) : Wp p e below P (T.setTop (mkF m pc L (.int y :: .int x :: S))) := by
  obtain ⟨hd, rfl⟩ := hd
  exact Wp.of (fun _ k => XS.ishr X.st.here X.hx rfl (X.hb hd) rfl k) K
theorem w_iushr (X : Sd Z n0 kk code ml own nm ret h p l e R s m args below meth c T locs cells slots) {x y : Int32} (hd : Dc code pc (.iushr) 1 pc')  (K : Wp p e below P (T.setTop (mkF m pc' L (.int ((x.toUInt32 >>> (y &&& 31).toUInt32).toInt32) :: S)))) : Wp p e below P (T.setTop (mkF m pc L (.int y :: .int x :: S))) := by
  obtain ⟨hd, rfl⟩ := hd
  exact Wp.of (fun _ k => XS.iushr X.st.here X.hx rfl (X.hb hd) rfl k) K
theorem w_lshl (X : Sd Z n0 kk code ml own nm ret h p l e R s m args below meth c T locs cells slots) {x : Int64} {y : Int32} (hd : Dc code pc (.lshl) 1 pc')  (K : Wp p e below P (T.setTop (mkF m pc' L (.long (x <<< (y &&& 0x3f).toInt64) :: S)))) : Wp p e below P (T.setTop (mkF m pc L (.int y :: .long x :: S))) := by
  obtain ⟨hd, rfl⟩ := hd
  exact Wp.of (fun _ k => XS.lshl X.st.here X.hx rfl (X.hb hd) rfl k) K
theorem w_lshr (X : Sd Z n0 kk code ml own nm ret h p l e R s m args below meth c T locs cells slots) {x : Int64} {y : Int32} (hd : Dc code pc (.lshr) 1 pc')  (K : Wp p e below P (T.setTop (mkF m pc' L (.long (x >>> (y &&& 0x3f).toInt64) :: S)))) : Wp p e below P (T.setTop (mkF m pc L (.int y :: .long x :: S))) := by
  obtain ⟨hd, rfl⟩ := hd
  exact Wp.of (fun _ k => XS.lshr X.st.here X.hx rfl (X.hb hd) rfl k) K
theorem w_lushr (X : Sd Z n0 kk code ml own nm ret h p l e R s m args below meth c T locs cells slots) {x : Int64} {y : Int32} (hd : Dc code pc (.lushr) 1 pc')  (K : Wp p e below P (T.setTop (mkF m pc' L (.long ((x.toUInt64 >>> (y &&& 0x3f).toInt64.toUInt64).toInt64) :: S)))) : Wp p e below P (T.setTop (mkF m pc L (.int y :: .long x :: S))) := by
  obtain ⟨hd, rfl⟩ := hd
  exact Wp.of (fun _ k => XS.lushr X.st.here X.hx rfl (X.hb hd) rfl k) K
theorem w_i2l (X : Sd Z n0 kk code ml own nm ret h p l e R s m args below meth c T locs cells slots) {x : Int32} (hd : Dc code pc (.i2l) 1 pc')  (K : Wp p e below P (T.setTop (mkF m pc' L (.long (x.toInt64) :: S)))) : Wp p e below P (T.setTop (mkF m pc L (.int x :: S))) := by
  obtain ⟨hd, rfl⟩ := hd
  exact Wp.of (fun _ k => XS.i2l X.st.here X.hx rfl (X.hb hd) rfl k) K
theorem w_i2b (X : Sd Z n0 kk code ml own nm ret h p l e R s m args below meth c T locs cells slots) {x : Int32} (hd : Dc code pc (.i2b) 1 pc')  (K : Wp p e below P (T.setTop (mkF m pc' L (.int (x.toInt8.toInt32) :: S)))) : Wp p e below P (T.setTop (mkF m pc L (.int x :: S))) := by
  obtain ⟨hd, rfl⟩ := hd
  exact Wp.of (fun _ k => XS.i2b X.st.here X.hx rfl (X.hb hd) rfl k) K
theorem w_i2s (X : Sd Z n0 kk code ml own nm ret h p l e R s m args below meth c T locs cells slots) {x : Int32} (hd : Dc code pc (.i2s) 1 pc')  (K : Wp p e below P (T.setTop (mkF m pc' L (.int (x.toInt16.toInt32) :: S)))) : Wp p e below P (T.setTop (mkF m pc L (.int x :: S))) := by
  obtain ⟨hd, rfl⟩ := hd
  exact Wp.of (fun _ k => XS.i2s X.st.here X.hx rfl (X.hb hd) rfl k) K
theorem w_i2c (X : Sd Z n0 kk code ml own nm ret h p l e R s m args below meth c T locs cells slots) {x : Int32} (hd : Dc code pc (.i2c) 1 pc')  (K : Wp p e below P (T.setTop (mkF m pc' L (.int (x.toUInt32.toUInt16.toUInt32.toInt32) :: S)))) : Wp p e below P (T.setTop (mkF m pc L (.int x :: S))) := by
  obtain ⟨hd, rfl⟩ := hd
  exact Wp.of (fun _ k => XS.i2c X.st.here X.hx rfl (X.hb hd) rfl k) K
theorem w_l2i (X : Sd Z n0 kk code ml own nm ret h p l e R s m args below meth c T locs cells slots) {x : Int64} (hd : Dc code pc (.l2i) 1 pc')  (K : Wp p e below P (T.setTop (mkF m pc' L (.int (x.toInt32) :: S)))) : Wp p e below P (T.setTop (mkF m pc L (.long x :: S))) := by
  obtain ⟨hd, rfl⟩ := hd
  exact Wp.of (fun _ k => XS.l2i X.st.here X.hx rfl (X.hb hd) rfl k) K
theorem w_lcmp (X : Sd Z n0 kk code ml own nm ret h p l e R s m args below meth c T locs cells slots) {x y : Int64} (hd : Dc code pc (.lcmp) 1 pc')  (K : Wp p e below P (T.setTop (mkF m pc' L (.int (lcmpW x y) :: S)))) : Wp p e below P (T.setTop (mkF m pc L (.long y :: .long x :: S))) := by
  obtain ⟨hd, rfl⟩ := hd
  exact Wp.of (fun _ k => XS.lcmp X.st.here X.hx rfl (X.hb hd) rfl k) K
theorem w_dup (X : Sd Z n0 kk code ml own nm ret h p l e R s m args below meth c T locs cells slots) {x : Value} (hd : Dc code pc (.dup) 1 pc') (hc : x.category = 1) (K : Wp p e below P (T.setTop (mkF m pc' L (x :: x :: S)))) : Wp p e below P (T.setTop (mkF m pc L (x :: S))) := by
  obtain ⟨hd, rfl⟩ := hd
  exact Wp.of (fun _ k => XS.dup X.st.here X.hx rfl (X.hb hd) rfl hc k) K
theorem w_dup2 (X : Sd Z n0 kk code ml own nm ret h p l e R s m args below meth c T locs cells slots) {x y : Value} (hd : Dc code pc (.dup2) 1 pc') (hc : x.category = 1) (hc' : y.category = 1) (K : Wp p e below P (T.setTop (mkF m pc' L (x :: y :: x :: y :: S)))) : Wp p e below P (T.setTop (mkF m pc L (x :: y :: S))) := by
  obtain ⟨hd, rfl⟩ := hd
  exact Wp.of (fun _ k => XT.dup2 X.st.here X.hx rfl (X.hb hd) rfl hc hc' k) K
theorem w_dup2L (X : Sd Z n0 kk code ml own nm ret h p l e R s m args below meth c T locs cells slots) {x : Int64} (hd : Dc code pc (.dup2) 1 pc')  (K : Wp p e below P (T.setTop (mkF m pc' L (.long x :: .long x :: S)))) : Wp p e below P (T.setTop (mkF m pc L (.long x :: S))) := by
  obtain ⟨hd, rfl⟩ := hd
  exact Wp.of (fun _ k => XT.dup2L X.st.here X.hx rfl (X.hb hd) rfl k) K
theorem w_dupX1 (X : Sd Z n0 kk code ml own nm ret h p l e R s m args below meth c T locs cells slots) {x y : Value} (hd : Dc code pc (.dup_x1) 1 pc') (hc : x.category = 1) (hc' : y.category = 1) (K : Wp p e below P (T.setTop (mkF m pc' L (x :: y :: x :: S)))) : Wp p e below P (T.setTop (mkF m pc L (x :: y :: S))) := by
  obtain ⟨hd, rfl⟩ := hd
  exact Wp.of (fun _ k => XS.dupX1 X.st.here X.hx rfl (X.hb hd) rfl hc hc' k) K
theorem w_pop (X : Sd Z n0 kk code ml own nm ret h p l e R s m args below meth c T locs cells slots) {x : Value} (hd : Dc code pc (.pop) 1 pc') (hc : x.category = 1) (K : Wp p e below P (T.setTop (mkF m pc' L S))) : Wp p e below P (T.setTop (mkF m pc L (x :: S))) := by
  obtain ⟨hd, rfl⟩ := hd
  exact Wp.of (fun _ k => XS.pop X.st.here X.hx rfl (X.hb hd) rfl hc k) K
theorem w_goto (X : Sd Z n0 kk code ml own nm ret h p l e R s m args below meth c T locs cells slots) {t : Nat} (hd : Bc code pc .goto t pc') (K : Wp p e below P (T.setTop (mkF m t L S))) : Wp p e below P (T.setTop (mkF m pc L S)) := by
  obtain ⟨o, hd, h1, h2, -⟩ := hd
  exact Wp.of (fun _ k => XS.goto X.st.here X.hx rfl (pc0 := pc) rfl (X.hb hd) h1 h2 k) K
theorem w_ifeq (X : Sd Z n0 kk code ml own nm ret h p l e R s m args below meth c T locs cells slots) {x : Int32} {t : Nat} (hd : Bc code pc (.ifCond .eq) t pc') (K1 : x = 0 → Wp p e below P (T.setTop (mkF m t L S))) (K2 : ¬ x = 0 → Wp p e below P (T.setTop (mkF m pc' L S))) : Wp p e below P (T.setTop (mkF m pc L (.int x :: S))) := by
  obtain ⟨o, hd, h1, h2, rfl⟩ := hd
  by_cases q : ifCond.holds .eq x = true
  · exact Wp.of (fun _ k => XS.ifYes X.st.here X.hx rfl (pc0 := pc) rfl (X.hb hd) rfl q h1 h2 k) (K1 (by simpa [ifCond.holds, Int32.not_lt] using q))
  · exact Wp.of (fun _ k => XS.ifNo X.st.here X.hx rfl (X.hb hd) rfl (by simpa using q) k) (K2 (by simpa [ifCond.holds, Int32.not_lt] using q))
theorem w_icmpeq (X : Sd Z n0 kk code ml own nm ret h p l e R s m args below meth c T locs cells slots) {x y : Int32} {t : Nat} (hd : Bc code pc (.if_icmp .eq) t pc') (K1 : x = y → Wp p e below P (T.setTop (mkF m t L S))) (K2 : ¬ x = y → Wp p e below P (T.setTop (mkF m pc' L S))) : Wp p e below P (T.setTop (mkF m pc L (.int y :: .int x :: S))) := by
  obtain ⟨o, hd, h1, h2, rfl⟩ := hd
  by_cases q : if_icmp.holds .eq x y = true
  · exact Wp.of (fun _ k => XS.icmpYes X.st.here X.hx rfl (pc0 := pc) rfl (X.hb hd) rfl q h1 h2 k) (K1 (by simpa [if_icmp.holds, Int32.not_lt] using q))
  · exact Wp.of (fun _ k => XS.icmpNo X.st.here X.hx rfl (X.hb hd) rfl (by simpa using q) k) (K2 (by simpa [if_icmp.holds, Int32.not_lt] using q))
theorem w_ifne (X : Sd Z n0 kk code ml own nm ret h p l e R s m args below meth c T locs cells slots) {x : Int32} {t : Nat} (hd : Bc code pc (.ifCond .ne) t pc') (K1 : ¬ x = 0 → Wp p e below P (T.setTop (mkF m t L S))) (K2 : x = 0 → Wp p e below P (T.setTop (mkF m pc' L S))) : Wp p e below P (T.setTop (mkF m pc L (.int x :: S))) := by
  obtain ⟨o, hd, h1, h2, rfl⟩ := hd
  by_cases q : ifCond.holds .ne x = true
  · exact Wp.of (fun _ k => XS.ifYes X.st.here X.hx rfl (pc0 := pc) rfl (X.hb hd) rfl q h1 h2 k) (K1 (by simpa [ifCond.holds, Int32.not_lt] using q))
  · exact Wp.of (fun _ k => XS.ifNo X.st.here X.hx rfl (X.hb hd) rfl (by simpa using q) k) (K2 (by simpa [ifCond.holds, Int32.not_lt] using q))
theorem w_icmpne (X : Sd Z n0 kk code ml own nm ret h p l e R s m args below meth c T locs cells slots) {x y : Int32} {t : Nat} (hd : Bc code pc (.if_icmp .ne) t pc') (K1 : ¬ x = y → Wp p e below P (T.setTop (mkF m t L S))) (K2 : x = y → Wp p e below P (T.setTop (mkF m pc' L S))) : Wp p e below P (T.setTop (mkF m pc L (.int y :: .int x :: S))) := by
  obtain ⟨o, hd, h1, h2, rfl⟩ := hd
  by_cases q : if_icmp.holds .ne x y = true
  · exact Wp.of (fun _ k => XS.icmpYes X.st.here X.hx rfl (pc0 := pc) rfl (X.hb hd) rfl q h1 h2 k) (K1 (by simpa [if_icmp.holds, Int32.not_lt] using q))
  · exact Wp.of (fun _ k => XS.icmpNo X.st.here X.hx rfl (X.hb hd) rfl (by simpa using q) k) (K2 (by simpa [if_icmp.holds, Int32.not_lt] using q))
theorem w_iflt (X : Sd Z n0 kk code ml own nm ret h p l e R s m args below meth c T locs cells slots) {x : Int32} {t : Nat} (hd : Bc code pc (.ifCond .lt) t pc') (K1 : x < 0 → Wp p e below P (T.setTop (mkF m t L S))) (K2 : ¬ x < 0 → Wp p e below P (T.setTop (mkF m pc' L S))) : Wp p e below P (T.setTop (mkF m pc L (.int x :: S))) := by
  obtain ⟨o, hd, h1, h2, rfl⟩ := hd
  by_cases q : ifCond.holds .lt x = true
  · exact Wp.of (fun _ k => XS.ifYes X.st.here X.hx rfl (pc0 := pc) rfl (X.hb hd) rfl q h1 h2 k) (K1 (by simpa [ifCond.holds, Int32.not_lt] using q))
  · exact Wp.of (fun _ k => XS.ifNo X.st.here X.hx rfl (X.hb hd) rfl (by simpa using q) k) (K2 (by simpa [ifCond.holds, Int32.not_lt] using q))
theorem w_icmplt (X : Sd Z n0 kk code ml own nm ret h p l e R s m args below meth c T locs cells slots) {x y : Int32} {t : Nat} (hd : Bc code pc (.if_icmp .lt) t pc') (K1 : x < y → Wp p e below P (T.setTop (mkF m t L S))) (K2 : ¬ x < y → Wp p e below P (T.setTop (mkF m pc' L S))) : Wp p e below P (T.setTop (mkF m pc L (.int y :: .int x :: S))) := by
  obtain ⟨o, hd, h1, h2, rfl⟩ := hd
  by_cases q : if_icmp.holds .lt x y = true
  · exact Wp.of (fun _ k => XS.icmpYes X.st.here X.hx rfl (pc0 := pc) rfl (X.hb hd) rfl q h1 h2 k) (K1 (by simpa [if_icmp.holds, Int32.not_lt] using q))
  · exact Wp.of (fun _ k => XS.icmpNo X.st.here X.hx rfl (X.hb hd) rfl (by simpa using q) k) (K2 (by simpa [if_icmp.holds, Int32.not_lt] using q))
theorem w_ifge (X : Sd Z n0 kk code ml own nm ret h p l e R s m args below meth c T locs cells slots) {x : Int32} {t : Nat} (hd : Bc code pc (.ifCond .ge) t pc') (K1 : ¬ x < 0 → Wp p e below P (T.setTop (mkF m t L S))) (K2 : x < 0 → Wp p e below P (T.setTop (mkF m pc' L S))) : Wp p e below P (T.setTop (mkF m pc L (.int x :: S))) := by
  obtain ⟨o, hd, h1, h2, rfl⟩ := hd
  by_cases q : ifCond.holds .ge x = true
  · exact Wp.of (fun _ k => XS.ifYes X.st.here X.hx rfl (pc0 := pc) rfl (X.hb hd) rfl q h1 h2 k) (K1 (by simpa [ifCond.holds, Int32.not_lt] using q))
  · exact Wp.of (fun _ k => XS.ifNo X.st.here X.hx rfl (X.hb hd) rfl (by simpa using q) k) (K2 (by simpa [ifCond.holds, Int32.not_lt] using q))
theorem w_icmpge (X : Sd Z n0 kk code ml own nm ret h p l e R s m args below meth c T locs cells slots) {x y : Int32} {t : Nat} (hd : Bc code pc (.if_icmp .ge) t pc') (K1 : ¬ x < y → Wp p e below P (T.setTop (mkF m t L S))) (K2 : x < y → Wp p e below P (T.setTop (mkF m pc' L S))) : Wp p e below P (T.setTop (mkF m pc L (.int y :: .int x :: S))) := by
  obtain ⟨o, hd, h1, h2, rfl⟩ := hd
  by_cases q : if_icmp.holds .ge x y = true
  · exact Wp.of (fun _ k => XS.icmpYes X.st.here X.hx rfl (pc0 := pc) rfl (X.hb hd) rfl q h1 h2 k) (K1 (by simpa [if_icmp.holds, Int32.not_lt] using q))
  · exact Wp.of (fun _ k => XS.icmpNo X.st.here X.hx rfl (X.hb hd) rfl (by simpa using q) k) (K2 (by simpa [if_icmp.holds, Int32.not_lt] using q))
theorem w_ifgt (X : Sd Z n0 kk code ml own nm ret h p l e R s m args below meth c T locs cells slots) {x : Int32} {t : Nat} (hd : Bc code pc (.ifCond .gt) t pc') (K1 : 0 < x → Wp p e below P (T.setTop (mkF m t L S))) (K2 : ¬ 0 < x → Wp p e below P (T.setTop (mkF m pc' L S))) : Wp p e below P (T.setTop (mkF m pc L (.int x :: S))) := by
  obtain ⟨o, hd, h1, h2, rfl⟩ := hd
  by_cases q : ifCond.holds .gt x = true
  · exact Wp.of (fun _ k => XS.ifYes X.st.here X.hx rfl (pc0 := pc) rfl (X.hb hd) rfl q h1 h2 k) (K1 (by simpa [ifCond.holds, Int32.not_lt] using q))
  · exact Wp.of (fun _ k => XS.ifNo X.st.here X.hx rfl (X.hb hd) rfl (by simpa using q) k) (K2 (by simpa [ifCond.holds, Int32.not_lt] using q))
theorem w_icmpgt (X : Sd Z n0 kk code ml own nm ret h p l e R s m args below meth c T locs cells slots) {x y : Int32} {t : Nat} (hd : Bc code pc (.if_icmp .gt) t pc') (K1 : y < x → Wp p e below P (T.setTop (mkF m t L S))) (K2 : ¬ y < x → Wp p e below P (T.setTop (mkF m pc' L S))) : Wp p e below P (T.setTop (mkF m pc L (.int y :: .int x :: S))) := by
  obtain ⟨o, hd, h1, h2, rfl⟩ := hd
  by_cases q : if_icmp.holds .gt x y = true
  · exact Wp.of (fun _ k => XS.icmpYes X.st.here X.hx rfl (pc0 := pc) rfl (X.hb hd) rfl q h1 h2 k) (K1 (by simpa [if_icmp.holds, Int32.not_lt] using q))
  · exact Wp.of (fun _ k => XS.icmpNo X.st.here X.hx rfl (X.hb hd) rfl (by simpa using q) k) (K2 (by simpa [if_icmp.holds, Int32.not_lt] using q))
theorem w_ifle (X : Sd Z n0 kk code ml own nm ret h p l e R s m args below meth c T locs cells slots) {x : Int32} {t : Nat} (hd : Bc code pc (.ifCond .le) t pc') (K1 : ¬ 0 < x → Wp p e below P (T.setTop (mkF m t L S))) (K2 : 0 < x → Wp p e below P (T.setTop (mkF m pc' L S))) : Wp p e below P (T.setTop (mkF m pc L (.int x :: S))) := by
  obtain ⟨o, hd, h1, h2, rfl⟩ := hd
  by_cases q : ifCond.holds .le x = true
  · exact Wp.of (fun _ k => XS.ifYes X.st.here X.hx rfl (pc0 := pc) rfl (X.hb hd) rfl q h1 h2 k) (K1 (by simpa [ifCond.holds, Int32.not_lt] using q))
  · exact Wp.of (fun _ k => XS.ifNo X.st.here X.hx rfl (X.hb hd) rfl (by simpa using q) k) (K2 (by simpa [ifCond.holds, Int32.not_lt] using q))
theorem w_icmple (X : Sd Z n0 kk code ml own nm ret h p l e R s m args below meth c T locs cells slots) {x y : Int32} {t : Nat} (hd : Bc code pc (.if_icmp .le) t pc') (K1 : ¬ y < x → Wp p e below P (T.setTop (mkF m t L S))) (K2 : y < x → Wp p e below P (T.setTop (mkF m pc' L S))) : Wp p e below P (T.setTop (mkF m pc L (.int y :: .int x :: S))) := by
  obtain ⟨o, hd, h1, h2, rfl⟩ := hd
  by_cases q : if_icmp.holds .le x y = true
  · exact Wp.of (fun _ k => XS.icmpYes X.st.here X.hx rfl (pc0 := pc) rfl (X.hb hd) rfl q h1 h2 k) (K1 (by simpa [if_icmp.holds, Int32.not_lt] using q))
  · exact Wp.of (fun _ k => XS.icmpNo X.st.here X.hx rfl (X.hb hd) rfl (by simpa using q) k) (K2 (by simpa [if_icmp.holds, Int32.not_lt] using q))
theorem own_lc (x y : Int64) : (lcmpW x y < 0 ↔ x < y) ∧ (0 < lcmpW x y ↔ y < x) ∧ (lcmpW x y = 0 ↔ x = y) := by rw [lcW]; exact ⟨lc_lt x y, lc_gt x y, lc_eq x y⟩
theorem w_leq (X : Sd Z n0 kk code ml own nm ret h p l e R s m args below meth c T locs cells slots) {x y : Int64} {t pc1 : Nat} (hd : Dc code pc .lcmp 1 pc1) (hd2 : Bc code pc1 (.ifCond .eq) t pc') (K1 : x = y → Wp p e below P (T.setTop (mkF m t L S))) (K2 : ¬ x = y → Wp p e below P (T.setTop (mkF m pc' L S))) : Wp p e below P (T.setTop (mkF m pc L (.long y :: .long x :: S))) :=
  w_lcmp X hd (w_ifeq X hd2 (fun q => K1 ((own_lc x y).2.2.mp q)) (fun q => K2 (fun r => q ((own_lc x y).2.2.mpr r))))
theorem w_lne (X : Sd Z n0 kk code ml own nm ret h p l e R s m args below meth c T locs cells slots) {x y : Int64} {t pc1 : Nat} (hd : Dc code pc .lcmp 1 pc1) (hd2 : Bc code pc1 (.ifCond .ne) t pc') (K1 : ¬ x = y → Wp p e below P (T.setTop (mkF m t L S))) (K2 : x = y → Wp p e below P (T.setTop (mkF m pc' L S))) : Wp p e below P (T.setTop (mkF m pc L (.long y :: .long x :: S))) :=
  w_lcmp X hd (w_ifne X hd2 (fun q => K1 (fun r => q ((own_lc x y).2.2.mpr r))) (fun q => K2 ((own_lc x y).2.2.mp q)))
theorem w_llt (X : Sd Z n0 kk code ml own nm ret h p l e R s m args below meth c T locs cells slots) {x y : Int64} {t pc1 : Nat} (hd : Dc code pc .lcmp 1 pc1) (hd2 : Bc code pc1 (.ifCond .lt) t pc') (K1 : x < y → Wp p e below P (T.setTop (mkF m t L S))) (K2 : ¬ x < y → Wp p e below P (T.setTop (mkF m pc' L S))) : Wp p e below P (T.setTop (mkF m pc L (.long y :: .long x :: S))) :=
  w_lcmp X hd (w_iflt X hd2 (fun q => K1 ((own_lc x y).1.mp q)) (fun q => K2 (fun r => q ((own_lc x y).1.mpr r))))
theorem w_lge (X : Sd Z n0 kk code ml own nm ret h p l e R s m args below meth c T locs cells slots) {x y : Int64} {t pc1 : Nat} (hd : Dc code pc .lcmp 1 pc1) (hd2 : Bc code pc1 (.ifCond .ge) t pc') (K1 : ¬ x < y → Wp p e below P (T.setTop (mkF m t L S))) (K2 : x < y → Wp p e below P (T.setTop (mkF m pc' L S))) : Wp p e below P (T.setTop (mkF m pc L (.long y :: .long x :: S))) :=
  w_lcmp X hd (w_ifge X hd2 (fun q => K1 (fun r => q ((own_lc x y).1.mpr r))) (fun q => K2 ((own_lc x y).1.mp q)))
theorem w_lgt (X : Sd Z n0 kk code ml own nm ret h p l e R s m args below meth c T locs cells slots) {x y : Int64} {t pc1 : Nat} (hd : Dc code pc .lcmp 1 pc1) (hd2 : Bc code pc1 (.ifCond .gt) t pc') (K1 : y < x → Wp p e below P (T.setTop (mkF m t L S))) (K2 : ¬ y < x → Wp p e below P (T.setTop (mkF m pc' L S))) : Wp p e below P (T.setTop (mkF m pc L (.long y :: .long x :: S))) :=
  w_lcmp X hd (w_ifgt X hd2 (fun q => K1 ((own_lc x y).2.1.mp q)) (fun q => K2 (fun r => q ((own_lc x y).2.1.mpr r))))
theorem w_lle (X : Sd Z n0 kk code ml own nm ret h p l e R s m args below meth c T locs cells slots) {x y : Int64} {t pc1 : Nat} (hd : Dc code pc .lcmp 1 pc1) (hd2 : Bc code pc1 (.ifCond .le) t pc') (K1 : ¬ y < x → Wp p e below P (T.setTop (mkF m t L S))) (K2 : y < x → Wp p e below P (T.setTop (mkF m pc' L S))) : Wp p e below P (T.setTop (mkF m pc L (.long y :: .long x :: S))) :=
  w_lcmp X hd (w_ifle X hd2 (fun q => K1 (fun r => q ((own_lc x y).2.1.mpr r))) (fun q => K2 ((own_lc x y).2.1.mp q)))
theorem w_ifnullT (X : Sd Z n0 kk code ml own nm ret h p l e R s m args below meth c T locs cells slots) {t : Nat} (hd : Bc code pc .ifnull t pc') (K : Wp p e below P (T.setTop (mkF m t L S))) : Wp p e below P (T.setTop (mkF m pc L (.null :: S))) := by
  obtain ⟨o, hd, h1, h2, -⟩ := hd
  exact Wp.of (fun _ k => XS.ifnullYes X.st.here X.hx rfl (pc0 := pc) rfl (X.hb hd) rfl h1 h2 k) K
theorem w_ifnullF (X : Sd Z n0 kk code ml own nm ret h p l e R s m args below meth c T locs cells slots) {t : Nat} {a : Addr} (hd : Bc code pc .ifnull t pc') (K : Wp p e below P (T.setTop (mkF m pc' L S))) : Wp p e below P (T.setTop (mkF m pc L (.ref a :: S))) := by
  obtain ⟨o, hd, h1, h2, rfl⟩ := hd
  exact Wp.of (fun _ k => XS.ifnullNo X.st.here X.hx rfl (X.hb hd) rfl k) K
theorem w_ifnonnullT (X : Sd Z n0 kk code ml own nm ret h p l e R s m args below meth c T locs cells slots) {t : Nat} {a : Addr} (hd : Bc code pc .ifnonnull t pc') (K : Wp p e below P (T.setTop (mkF m t L S))) : Wp p e below P (T.setTop (mkF m pc L (.ref a :: S))) := by
  obtain ⟨o, hd, h1, h2, -⟩ := hd
  exact Wp.of (fun _ k => XS.ifnonnullYes X.st.here X.hx rfl (pc0 := pc) rfl (X.hb hd) rfl h1 h2 k) K
theorem w_ifnonnullF (X : Sd Z n0 kk code ml own nm ret h p l e R s m args below meth c T locs cells slots) {t : Nat} (hd : Bc code pc .ifnonnull t pc') (K : Wp p e below P (T.setTop (mkF m pc' L S))) : Wp p e below P (T.setTop (mkF m pc L (.null :: S))) := by
  obtain ⟨o, hd, h1, h2, rfl⟩ := hd
  exact Wp.of (fun _ k => XS.ifnonnullNo X.st.here X.hx rfl (X.hb hd) rfl k) K
theorem w_acmpeq (X : Sd Z n0 kk code ml own nm ret h p l e R s m args below meth c T locs cells slots) {x y : Value} {t : Nat} (hx' : x.isRef = true) (hy' : y.isRef = true) (hd : Bc code pc (.if_acmp .eq) t pc') (K1 : x = y → Wp p e below P (T.setTop (mkF m t L S))) (K2 : ¬ x = y → Wp p e below P (T.setTop (mkF m pc' L S))) : Wp p e below P (T.setTop (mkF m pc L (y :: x :: S))) := by
  obtain ⟨o, hd, h1, h2, rfl⟩ := hd
  by_cases q : x = y
  · exact Wp.of (fun _ k => Jvm.RoadKit.acmp X.st X.hx rfl hx' hy' (pc0 := pc) (same := true) rfl (X.hb hd) rfl (decide_eq_true q) h1 (by simp [acV, h2]) k) (K1 q)
  · exact Wp.of (fun _ k => Jvm.RoadKit.acmp X.st X.hx rfl hx' hy' (pc0 := pc) (same := false) rfl (X.hb hd) rfl (decide_eq_false q) h1 (by simp [acV, h2]) k) (K2 q)
theorem w_acmpne (X : Sd Z n0 kk code ml own nm ret h p l e R s m args below meth c T locs cells slots) {x y : Value} {t : Nat} (hx' : x.isRef = true) (hy' : y.isRef = true) (hd : Bc code pc (.if_acmp .ne) t pc') (K1 : ¬ x = y → Wp p e below P (T.setTop (mkF m t L S))) (K2 : x = y → Wp p e below P (T.setTop (mkF m pc' L S))) : Wp p e below P (T.setTop (mkF m pc L (y :: x :: S))) := by
  obtain ⟨o, hd, h1, h2, rfl⟩ := hd
  by_cases q : x = y
  · exact Wp.of (fun _ k => Jvm.RoadKit.acmp X.st X.hx rfl hx' hy' (pc0 := pc) (same := true) rfl (X.hb hd) rfl (decide_eq_true q) h1 (by simp [acV, h2]) k) (K2 q)
  · exact Wp.of (fun _ k => Jvm.RoadKit.acmp X.st X.hx rfl hx' hy' (pc0 := pc) (same := false) rfl (X.hb hd) rfl (decide_eq_false q) h1 (by simp [acV, h2]) k) (K1 q)
theorem w_tsw (X : Sd Z n0 kk code ml own nm ret h p l e R s m args below meth c T locs cells slots) {dflt low high : Int} {offs : Array Int} {len : Nat} {o : Int} {t : Nat} {i : Int32} (hd : Dc code pc (.tableswitch dflt low high offs) len pc') (hin : ¬ (i.toInt < low ∨ i.toInt > high)) (hoff : offs[(i.toInt - low).toNat]? = some o) (ho : 0 ≤ (pc : Int) + o) (ht : ((pc : Int) + o).toNat = t) (K : Wp p e below P (T.setTop (mkF m t L S))) : Wp p e below P (T.setTop (mkF m pc L (.int i :: S))) := by
  obtain ⟨hd, -⟩ := hd
  exact Wp.of (fun _ k => XS.tswIn X.st.here X.hx rfl (pc0 := pc) rfl (X.hb hd) rfl hin hoff ho ht k) K
theorem w_ldcI (X : Sd Z n0 kk code ml own nm ret h p l e R s m args below meth c T locs cells slots) {i : Nat} {v : Int32} (hd : Dc code pc (.ldc i) 2 pc') (hw : (Cond.constant own i v).before a0 Z = true) (K : Wp p e below P (T.setTop (mkF m pc' L (.int v :: S)))) : Wp p e below P (T.setTop (mkF m pc L S)) := by
  obtain ⟨hd, rfl⟩ := hd
  exact Wp.of (fun _ k => X.st.ldcInt X.hx X.hown (mvT X.hZ hw) (g := mkF m pc L S) rfl (X.hb hd) _ k) K
theorem w_ldc2J (X : Sd Z n0 kk code ml own nm ret h p l e R s m args below meth c T locs cells slots) {i : Nat} {v : Int64} (hd : Dc code pc (.ldc2_w i) 3 pc') (hw : (Cond.constantLong own i v).before a0 Z = true) (K : Wp p e below P (T.setTop (mkF m pc' L (.long v :: S)))) : Wp p e below P (T.setTop (mkF m pc L S)) := by
  obtain ⟨hd, rfl⟩ := hd
  exact Wp.of (fun _ k => X.st.ldc2Long X.hx X.hown (mvT X.hZ hw) (g := mkF m pc L S) rfl (X.hb hd) _ k) K
end Steps
/-- what a contract says of the end -/
def Po (Z : State) (n0 : Nat) (s : State) (Q : Option Value → Heap → Prop) (ce sl : Nat) : State → Outcome → Prop := fun U o => ∃ v L, o = .returned v ∧ (Fr n0 L ∧ Old Z n0 U.heap ∧ s.heap.size ≤ U.heap.size ∧ Q v U.heap) ∧ FrameEnd s o U L ce sl
/-- called with these arguments at the heap h0, y returns and Q holds of what it returns and of the heap behind it -/
def Does (l : Launch) (Z : State) (n0 : Nat) (y : MethodName) (code : ByteArray) (ml : Nat) (ret : Option FieldType) (ws : List Cond) (rm : Room) (as' : Array Value) (h0 : Heap) (Q : Option Value → Heap → Prop) : Prop :=
  Old Z n0 h0 → MetFree l y (head1 (Cond.code y code ml ret :: ws) rm) (fun a U => a = as' ∧ Z.Warmed39 U.vm ∧ U.heap = h0) (fun _ _ _ _ _ => True) (fun _ U o U' => ∃ v L, o = .returned v ∧ (Fr n0 L ∧ Old Z n0 U'.heap ∧ h0.size ≤ U'.heap.size ∧ Q v U'.heap) ∧ FrameEnd U o U' L rm.cells rm.slots)
theorem Does.start {l : Launch} {Z : State} {n0 : Nat} {y : MethodName} {code : ByteArray} {ml : Nat} {ret : Option FieldType} {ws : List Cond} {rm : Room} {as' : Array Value} {h0 : Heap} {Q : Option Value → Heap → Prop} (hp : plainFor y = true)
    (body : ∀ p e s m below meth c s₁, Sd Z n0 0 code ml y.cls y.name ret h0 p l e rm s m as' below meth c s₁ [] 0 0 → Wp p e below (Po Z n0 s Q rm.cells rm.slots) (s₁.setTop (entryFrame m as' ml))) : Does l Z n0 y code ml ret ws rm as' h0 Q := by
  intro hold
  refine MetFree.of_bodySF hp hisR ?_
  intro p e s m args below meth c s₁ Bd hml0 hP hK
  obtain ⟨rfl, hZ, hh⟩ := hP
  have hh' := hh
  subst hh
  exact body p e s m below meth c s₁ ⟨Stand.of_body Bd, ⟨Bd.exec, Bd.bytes, hml0, findClass_of_methodNamed Bd.named, hZ, Bd.returns, (name_of_methodNamed Bd.named Bd.method).1, Bd.notSynchronized⟩, by rw [Bd.state]; rfl, Fr.nil n0, hold, Nat.zero_le _⟩
theorem Does.mono {l : Launch} {Z : State} {n0 : Nat} {y : MethodName} {code : ByteArray} {ml : Nat} {ret : Option FieldType} {ws : List Cond} {rm : Room} {as' : Array Value} {h0 : Heap} {Q Q' : Option Value → Heap → Prop} (D : Does l Z n0 y code ml ret ws rm as' h0 Q) (f : ∀ v h, Q v h → Q' v h) : Does l Z n0 y code ml ret ws rm as' h0 Q' := by
  intro hold p e ha hc hk s m args below hf happ hP hK
  obtain ⟨n, o, h1, h2, h3, v, L, e1, ⟨q1, q2, q2', q3⟩, q4⟩ := D hold p e ha hc hk s m args below hf happ hP hK
  exact ⟨n, o, h1, h2, h3, v, L, e1, ⟨q1, q2, q2', f _ _ q3⟩, q4⟩
section Steps2
variable {Z : State} {n0 kk : Nat} {code : ByteArray} {ml : Nat} {own nm : String} {ret : Option FieldType} {h : Heap} {p : Program} {l : Launch} {e : Env} {R : Room} {s : State} {m : MethodId} {args : Array Value} {below : List Frame} {meth : Method} {c : Code} {T : State} {locs : List Loc} {cells slots : Nat} {P : State → Outcome → Prop} {a0 : Array Value} {pc pc' : Nat} {L : Array Slot} {S : List Value} {Q : Option Value → Heap → Prop} {ce sl : Nat}
theorem Sd.done (X : Sd Z n0 kk code ml own nm ret h p l e R s m args below meth c T locs cells slots) {v : Option Value} (hv : ret = none → v = none) (hq : Q v h) (hc : cells ≤ ce) (hs : slots ≤ sl) {g : JFrame} (step : ∀ fs, (∀ (f : JFrame) (acts : List Action), f.method = m → f.locked = none → f.entered = [] → (doReturn e (T.setTop f) acts v).1 = T.setFrames fs) → Steps p.tables e below (T.setTop g) (T.setFrames fs)) : Wp p e below (Po Z n0 s Q ce sl) (T.setTop g) := by
  obtain ⟨fs, hr, hrun, hended, hW, hsame⟩ := X.st.leave (v := v) (fun q => hv (X.hret ▸ q)) X.hlk
  have e1 : (T.setFrames fs).heap = h := X.eh
  refine ⟨_, _, step fs hr, hrun, hended, v, locs, rfl, ⟨X.fr, ?_, X.st.same.2.1, ?_⟩, ⟨_, rfl⟩, hW, hsame.mono hc hs⟩
  · rw [e1]; exact X.old
  · rw [e1]; exact hq
theorem w_retI (X : Sd Z n0 kk code ml own nm (some .int) h p l e R s m args below meth c T locs cells slots) {z : Int32} (hd : Dc code pc .ireturn 1 pc') (hq : Q (some (.int z)) h) (hc : cells ≤ ce) (hs : slots ≤ sl) : Wp p e below (Po Z n0 s Q ce sl) (T.setTop (mkF m pc L (.int z :: S))) :=
  X.done nofun hq hc hs fun fs hr => retOut X.st X.hx X.hret rfl (Or.inl ⟨rfl, Or.inl rfl, z, rfl⟩) (X.hb hd.1) hr
theorem w_ret_boolean (X : Sd Z n0 kk code ml own nm (some .boolean) h p l e R s m args below meth c T locs cells slots) {z : Int32} (z' : Int32) (hz : nar .boolean z = z') (hd : Dc code pc .ireturn 1 pc') (hq : Q (some (.int z')) h) (hc : cells ≤ ce) (hs : slots ≤ sl) : Wp p e below (Po Z n0 s Q ce sl) (T.setTop (mkF m pc L (.int z :: S))) := by
  subst hz
  exact X.done nofun hq hc hs fun fs hr => retN X.st X.hx X.hret (by simp) (X.hb hd.1) hr
theorem w_ret_byte (X : Sd Z n0 kk code ml own nm (some .byte) h p l e R s m args below meth c T locs cells slots) {z : Int32} (z' : Int32) (hz : nar .byte z = z') (hd : Dc code pc .ireturn 1 pc') (hq : Q (some (.int z')) h) (hc : cells ≤ ce) (hs : slots ≤ sl) : Wp p e below (Po Z n0 s Q ce sl) (T.setTop (mkF m pc L (.int z :: S))) := by
  subst hz
  exact X.done nofun hq hc hs fun fs hr => retN X.st X.hx X.hret (by simp) (X.hb hd.1) hr
theorem w_ret_char (X : Sd Z n0 kk code ml own nm (some .char) h p l e R s m args below meth c T locs cells slots) {z : Int32} (z' : Int32) (hz : nar .char z = z') (hd : Dc code pc .ireturn 1 pc') (hq : Q (some (.int z')) h) (hc : cells ≤ ce) (hs : slots ≤ sl) : Wp p e below (Po Z n0 s Q ce sl) (T.setTop (mkF m pc L (.int z :: S))) := by
  subst hz
  exact X.done nofun hq hc hs fun fs hr => retN X.st X.hx X.hret (by simp) (X.hb hd.1) hr
theorem w_ret_short (X : Sd Z n0 kk code ml own nm (some .short) h p l e R s m args below meth c T locs cells slots) {z : Int32} (z' : Int32) (hz : nar .short z = z') (hd : Dc code pc .ireturn 1 pc') (hq : Q (some (.int z')) h) (hc : cells ≤ ce) (hs : slots ≤ sl) : Wp p e below (Po Z n0 s Q ce sl) (T.setTop (mkF m pc L (.int z :: S))) := by
  subst hz
  exact X.done nofun hq hc hs fun fs hr => retN X.st X.hx X.hret (by simp) (X.hb hd.1) hr
theorem w_retJ (X : Sd Z n0 kk code ml own nm (some .long) h p l e R s m args below meth c T locs cells slots) {z : Int64} (hd : Dc code pc .lreturn 1 pc') (hq : Q (some (.long z)) h) (hc : cells ≤ ce) (hs : slots ≤ sl) : Wp p e below (Po Z n0 s Q ce sl) (T.setTop (mkF m pc L (.long z :: S))) :=
  X.done nofun hq hc hs fun fs hr => retOut X.st X.hx X.hret rfl (Or.inr (Or.inl ⟨rfl, rfl, z, rfl⟩)) (X.hb hd.1) hr
theorem w_retR (X : Sd Z n0 kk code ml own nm ret h p l e R s m args below meth c T locs cells slots) {t : FieldType} {z : Value} (ht : t.isReference = true) (hz : z.isRef = true) (hret : ret = some t) (hd : Dc code pc .areturn 1 pc') (hq : Q (some z) h) (hc : cells ≤ ce) (hs : slots ≤ sl) : Wp p e below (Po Z n0 s Q ce sl) (T.setTop (mkF m pc L (z :: S))) := by
  subst hret
  exact X.done nofun hq hc hs fun fs hr => retOut X.st X.hx X.hret (by rcases ref_cases hz with rfl | ⟨z, rfl⟩ <;> cases t <;> first | rfl | cases ht) (Or.inr (Or.inr (Or.inr (Or.inr ⟨rfl, ht, hz⟩)))) (X.hb hd.1) hr
theorem w_retV (X : Sd Z n0 kk code ml own nm (none) h p l e R s m args below meth c T locs cells slots) (hd : Dc code pc .return_ 1 pc') (hq : Q none h) (hc : cells ≤ ce) (hs : slots ≤ sl) : Wp p e below (Po Z n0 s Q ce sl) (T.setTop (mkF m pc L [])) :=
  X.done (fun _ => rfl) hq hc hs fun fs hr => X.st.returnOut X.hx X.hret (X.hb hd.1) hr
theorem w_getF (X : Sd Z n0 kk code ml own nm ret h p l e R s m args below meth c T locs cells slots) {R0 O n d host : String} {index : Nat} {a : Addr} {v : Value} (hd : Dc code pc (.getfield index) 3 pc') (w : (Cond.fieldLink own index R0 n d).before a0 Z = true ∨ (Cond.fieldLinkNest own index R0 n d host).before a0 Z = true) (via : Via Z R0 O n d) (F : Fld Z h a O n d v) (K : ∀ T', Sd Z n0 kk code ml own nm ret h p l e R s m args below meth c T' locs cells slots → Wp p e below P (T'.setTop (mkF m pc' L (v :: S)))) : Wp p e below P (T.setTop (mkF m pc L (.ref a :: S))) := by
  obtain ⟨hd, rfl⟩ := hd
  obtain ⟨T', X', e', st⟩ := getF X.st X.hx X.hZ X.hown w via X.eh F (g := mkF m pc L (.ref a :: S)) rfl rfl (X.hb hd)
  exact Wp.of st (K T' (X.mk' X' e' X.fr X.old (Nat.le_refl _)))
theorem w_getS (X : Sd Z n0 kk code ml own nm ret h p l e R s m args below meth c T locs cells slots) {R0 O n d host : String} {index : Nat} {v : Value} (hd : Dc code pc (.getstatic index) 3 pc') (w : (Cond.fieldLink own index R0 n d).before a0 Z = true ∨ (Cond.fieldLinkNest own index R0 n d host).before a0 Z = true) (via : Via Z R0 O n d) (F : Sta Z h O n d v) (K : ∀ T', Sd Z n0 kk code ml own nm ret h p l e R s m args below meth c T' locs cells slots → Wp p e below P (T'.setTop (mkF m pc' L (v :: S)))) : Wp p e below P (T.setTop (mkF m pc L S)) := by
  obtain ⟨hd, rfl⟩ := hd
  obtain ⟨T', X', e', st⟩ := getS2 X.st X.hx X.hZ X.hown w via X.eh F (g := mkF m pc L S) rfl (X.hb hd)
  exact Wp.of st (K T' (X.mk' X' e' X.fr X.old (Nat.le_refl _)))
theorem w_putF (X : Sd Z n0 kk code ml own nm ret h p l e R s m args below meth c T locs cells slots) {R0 O n d host C : String} {index ni : Nat} {ty : FieldType} {a : Addr} {v old : Value} (hd : Dc code pc (.putfield index) 3 pc')  (w : (Cond.fieldLink own index R0 n d).before a0 Z = true ∨ (Cond.fieldLinkNest own index R0 n d host).before a0 Z = true) (via : Via Z R0 O n d) (F : Fld Z h a O n d old) (E : Exa Z h a C) (L0 : (Cond.lays C O n d).before a0 Z = true ∨ ((Cond.laysFinal C O n d).before a0 Z = true ∧ own = O ∧ nm = "<init>")) (wi : (Cond.instantiable C ni).before a0 Z = true) (hty : parseFieldDescriptor d = some ty) (hn : narrow ty v = v) (hf : fits ty v = true) (ga : n0 ≤ a) (K : ∀ T' h', Sd Z n0 kk code ml own nm ret h' p l e R s m args below meth c T' (locs ++ [⟨a, slotOf Z O n d⟩]) cells slots → Wr h h' a (slotOf Z O n d) v → Wp p e below P (T'.setTop (mkF m pc' L S))) : Wp p e below P (T.setTop (mkF m pc L (v :: .ref a :: S))) := by
  obtain ⟨hd, rfl⟩ := hd
  obtain ⟨T', h', X', e', W, st⟩ := putF X.st X.hx X.hZ X.hown w via X.eh F E (L0.imp id fun q => ⟨q.1, q.2.1, X.hnm.trans q.2.2⟩) wi hty hn hf (g := mkF m pc L (v :: .ref a :: S)) rfl rfl (X.hb hd)
  exact Wp.of st (K T' h' (X.mk' X' e' (Fr.snoc X' X.fr ga) (X.old.wr W ga) (Nat.le_of_eq W.size.symm)) W)
theorem w_putFN (X : Sd Z n0 kk code ml own nm ret h p l e R s m args below meth c T locs cells slots) {R0 O n d C : String} {index ni : Nat} {ty : FieldType} {a : Addr} {v old : Value} (hd : Dc code pc (.putfield index) 3 pc')  (w : (Cond.fieldLink own index R0 n d).before a0 Z = true) (via : Via Z R0 O n d) (F : Fld Z h a O n d old) (E : Exa Z h a C) (L0 : (Cond.lays C O n d).before a0 Z = true ∨ ((Cond.laysFinal C O n d).before a0 Z = true ∧ own = O ∧ nm = "<init>")) (wi : (Cond.instantiable C ni).before a0 Z = true) (hty : parseFieldDescriptor d = some ty) (v' : Value) (hn : narrow ty v = v') (hf : fits ty v' = true) (ga : n0 ≤ a) (K : ∀ T' h', Sd Z n0 kk code ml own nm ret h' p l e R s m args below meth c T' (locs ++ [⟨a, slotOf Z O n d⟩]) cells slots → Wr h h' a (slotOf Z O n d) v' → Wp p e below P (T'.setTop (mkF m pc' L S))) : Wp p e below P (T.setTop (mkF m pc L (v :: .ref a :: S))) := by
  obtain ⟨hd, rfl⟩ := hd
  obtain ⟨T', h', X', e', W, st⟩ := putFN X.st X.hx X.hZ X.hown w via X.eh F E (L0.imp id fun q => ⟨q.1, q.2.1, X.hnm.trans q.2.2⟩) wi hty hn hf (g := mkF m pc L (v :: .ref a :: S)) rfl rfl (X.hb hd)
  exact Wp.of st (K T' h' (X.mk' X' e' (Fr.snoc X' X.fr ga) (X.old.wr W ga) (Nat.le_of_eq W.size.symm)) W)
theorem w_new (X : Sd Z n0 kk code ml own nm ret h p l e R s m args below meth c T locs cells slots) {C : String} {index n : Nat} (hd : Dc code pc (.new index) 3 pc') (w1 : (Cond.classLink own index C).before a0 Z = true) (wi : (Cond.instantiable C n).before a0 Z = true) (wz : (Cond.initialized C).before a0 Z = true) (hc : cells + 1 ≤ R.cells) (hl : slots + n ≤ R.slots) (K : ∀ T' h' b, b = h.size → n0 ≤ b → Sd Z n0 kk code ml own nm ret h' p l e R s m args below meth c T' locs (cells + 1) (slots + n) → Ext h h' → Exa Z h' b C → (∀ {O nm' d : String} {ty : FieldType}, Laid Z a0 C O nm' d → parseFieldDescriptor d = some ty → Fld Z h' b O nm' d (defaultValue ty)) → Wp p e below P (T'.setTop (mkF m pc' L (.ref b :: S)))) : Wp p e below P (T.setTop (mkF m pc L S)) := by
  obtain ⟨hd, rfl⟩ := hd
  obtain ⟨T', h', X', e', E, A, D, -, st⟩ := newO X.st X.hx X.hZ X.hown w1 wi wz X.eh (g := mkF m pc L S) rfl (X.hb hd) hc hl
  exact Wp.of st (K T' h' _ rfl (X.old.1 ▸ X.old.2.1) (X.mk' X' e' X.fr (X.old.ext E) E.1) E A D)
theorem w_initO (X : Sd Z n0 kk code ml own nm ret h p l e R s m args below meth c T locs cells slots) {index : Nat} {a : Addr} (hd : Dc code pc (.invokespecial index) 3 pc') (w1 : (Cond.methodLink own index Lib.objectInit).before a0 Z = true) (w2 : (Cond.instanceMethod Lib.objectInit).before a0 Z = true) (w3 : (Cond.code Lib.objectInit ⟨#[0xb1]⟩ 1 none).before a0 Z = true) (hsz : L.size = ml) (hf : 1 ≤ R.frames) (hl : (S.map fun v => v.category).sum + 12 ≤ R.locals) (K : ∀ T', Sd Z n0 kk code ml own nm ret h p l e R s m args below meth c T' locs cells slots → Wp p e below P (T'.setTop (mkF m pc' L S))) : Wp p e below P (T.setTop (mkF m pc L (.ref a :: S))) := by
  obtain ⟨hd, rfl⟩ := hd
  obtain ⟨T', X', e', st⟩ := initO X.st X.hx X.hZ X.hown w1 w2 w3 X.eh (g := mkF m pc L (.ref a :: S)) rfl (by rw [X.hml]; exact hsz) rfl (X.hb hd) hf (W := (S.map fun v => v.category).sum) (by show 2 * 0 + _ ≤ _; omega) hl
  exact Wp.of st (K T' (X.mk' X' e' X.fr X.old (Nat.le_refl _)))
theorem w_callS (X : Sd Z n0 kk code ml own nm ret h p l e R s m args below meth c T locs cells slots) {y : MethodName} {bytes : ByteArray} {maxL : Nat} {ret' : Option FieldType} {rm : Room} {index : Nat} {Q' : Option Value → Heap → Prop} {ps : List FieldType} {rr : Option FieldType} {stk : List Value} (hd : Dc code pc (.invokestatic index) 3 pc') (w1 : (Cond.methodLink own index y).before a0 Z = true) (w2 : (Cond.static y).before a0 Z = true) (w3 : (Cond.initialized y.cls).before a0 Z = true) (w4 : (Cond.code y bytes maxL ret').before a0 Z = true) (hy : y.cls ≠ "java/lang/invoke/MethodHandle" ∧ y.cls ≠ "java/lang/invoke/VarHandle") {argsL : List Value} (D : Does l Z n0 y bytes maxL ret' [] rm argsL.toArray h Q') (hpd : parseMethodDescriptor y.desc = some ⟨ps, rr⟩) (hlen : argsL.length = ps.length) (hst : stk = argsL.reverse ++ S) (hsz : L.size = ml) (hf : rm.frames + 1 ≤ R.frames) (hl : (S.map fun v => v.category).sum + (maxL + 11) + rm.locals ≤ R.locals) (hc : cells + rm.cells ≤ R.cells) (hs : slots + rm.slots ≤ R.slots) (K : ∀ T' h' v L', Sd Z n0 kk code ml own nm ret h' p l e R s m args below meth c T' (locs ++ L') (cells + rm.cells) (slots + rm.slots) → Q' v h' → Wp p e below P (T'.setTop (mkF m pc' L (v.toList ++ S)))) : Wp p e below P (T.setTop (mkF m pc L stk)) := by
  obtain ⟨hd, rfl⟩ := hd
  obtain ⟨v, vm1, ⟨T', L1, k1, n1⟩, -, X', ⟨Lc, hQ, l1, y1, z1⟩, st⟩ := Jvm.LawKit.callS X.st X.hx X.hown (mvT X.hZ w1) (mvT X.hZ w2) (mvT X.hZ w3) (mvT X.hZ w4) hy (backOf (Q := fun v h' L => Fr n0 L ∧ Old Z n0 h' ∧ h.size ≤ h'.size ∧ Q' v h') (W := (S.map fun v => v.category).sum) (D X.old) X.hZ w4 w3 hf hl) (g := mkF m pc L stk) rfl (by rw [X.hml]; exact hsz) (argsL := argsL) (rest := S) (lenOf hpd hlen) hst (by show 2 * 0 + _ ≤ _; omega) (X.hb hd) (fun _ _ => ⟨rfl, X.eh, hc, hs⟩)
  dsimp only [Pt.U, Pt.locs, Pt.cells, Pt.slots] at X' l1 y1 z1 st hQ
  subst l1 y1 z1
  exact Wp.of st (K T' _ v Lc (X.mk' X' rfl (X.fr.app hQ.1) hQ.2.1 hQ.2.2.1) hQ.2.2.2)
theorem w_callI (X : Sd Z n0 kk code ml own nm ret h p l e R s m args below meth c T locs cells slots) {y : MethodName} {bytes : ByteArray} {maxL : Nat} {rm : Room} {index : Nat} {Q' : Option Value → Heap → Prop} {ps : List FieldType} {rr : Option FieldType} {stk : List Value} (hd : Dc code pc (.invokespecial index) 3 pc') (hi : y.name = "<init>") (w1 : (Cond.methodLink own index y).before a0 Z = true) (w2 : (Cond.instanceMethod y).before a0 Z = true) (w3 : (Cond.initialized y.cls).before a0 Z = true) (w4 : (Cond.code y bytes maxL none).before a0 Z = true) (hy : y.cls ≠ "java/lang/invoke/MethodHandle" ∧ y.cls ≠ "java/lang/invoke/VarHandle") {a : Addr} {argsL : List Value} (D : Does l Z n0 y bytes maxL none [] rm (.ref a :: argsL).toArray h Q') (hpd : parseMethodDescriptor y.desc = some ⟨ps, rr⟩) (hlen : argsL.length = ps.length) (hst : stk = argsL.reverse ++ .ref a :: S) (hsz : L.size = ml) (hf : rm.frames + 1 ≤ R.frames) (hl : (S.map fun v => v.category).sum + (maxL + 11) + rm.locals ≤ R.locals) (hc : cells + rm.cells ≤ R.cells) (hs : slots + rm.slots ≤ R.slots) (K : ∀ T' h' v L', Sd Z n0 kk code ml own nm ret h' p l e R s m args below meth c T' (locs ++ L') (cells + rm.cells) (slots + rm.slots) → Q' v h' → Wp p e below P (T'.setTop (mkF m pc' L (v.toList ++ S)))) : Wp p e below P (T.setTop (mkF m pc L stk)) := by
  obtain ⟨hd, rfl⟩ := hd
  obtain ⟨v, vm1, ⟨T', L1, k1, n1⟩, -, X', ⟨Lc, hQ, l1, y1, z1⟩, st⟩ := X.st.specialBack X.hx hi X.hown (mvT X.hZ w1) (mvT X.hZ w2) (mvT X.hZ w4) hy (backOf (Q := fun v h' L => Fr n0 L ∧ Old Z n0 h' ∧ h.size ≤ h'.size ∧ Q' v h') (W := (S.map fun v => v.category).sum) (D X.old) X.hZ w4 w3 hf hl) (g := mkF m pc L stk) rfl (by rw [X.hml]; exact hsz) (Steps.refl _) (a := a) (argsL := argsL) (rest := S) (lenOf hpd hlen) hst (by show 2 * 0 + _ ≤ _; omega) (X.hb hd) (fun _ _ => ⟨rfl, X.eh, hc, hs⟩)
  dsimp only [Pt.U, Pt.locs, Pt.cells, Pt.slots] at X' l1 y1 z1 st hQ
  subst l1 y1 z1
  exact Wp.tr st (K T' _ v Lc (X.mk' X' rfl (X.fr.app hQ.1) hQ.2.1 hQ.2.2.1) hQ.2.2.2)
theorem w_callV (X : Sd Z n0 kk code ml own nm ret h p l e R s m args below meth c T locs cells slots) {y : MethodName} {bytes : ByteArray} {maxL : Nat} {ret' : Option FieldType} {rm : Room} {index : Nat} {Q' : Option Value → Heap → Prop} {ps : List FieldType} {rr : Option FieldType} {stk : List Value} {z : MethodName} {C : String} (hd : Dc code pc (.invokevirtual index) 3 pc') (w1 : (Cond.methodLink own index y).before a0 Z = true) (wd : (Cond.declares y).before a0 Z = true) (hnf : NotFace s y) (ws : (Cond.selects C y z).before a0 Z = true) (w2 : (Cond.instanceMethod z).before a0 Z = true) (w3 : (Cond.initialized z.cls).before a0 Z = true) (w4 : (Cond.code z bytes maxL ret').before a0 Z = true) (hy : y.cls ≠ "java/lang/invoke/MethodHandle" ∧ y.cls ≠ "java/lang/invoke/VarHandle") {a : Addr} (E : Exa Z h a C) {argsL : List Value} (D : Does l Z n0 z bytes maxL ret' [] rm (.ref a :: argsL).toArray h Q') (hpd : parseMethodDescriptor y.desc = some ⟨ps, rr⟩) (hlen : argsL.length = ps.length) (hst : stk = argsL.reverse ++ .ref a :: S) (hsz : L.size = ml) (hf : rm.frames + 1 ≤ R.frames) (hl : (S.map fun v => v.category).sum + (maxL + 11) + rm.locals ≤ R.locals) (hc : cells + rm.cells ≤ R.cells) (hs : slots + rm.slots ≤ R.slots) (K : ∀ T' h' v L', Sd Z n0 kk code ml own nm ret h' p l e R s m args below meth c T' (locs ++ L') (cells + rm.cells) (slots + rm.slots) → Q' v h' → Wp p e below P (T'.setTop (mkF m pc' L (v.toList ++ S)))) : Wp p e below P (T.setTop (mkF m pc L stk)) := by
  obtain ⟨hd, rfl⟩ := hd
  obtain ⟨cq, kq, qa, qb, qc⟩ := isOf X.hZ X.eh E
  obtain ⟨v, vm1, ⟨T', L1, k1, n1⟩, -, X', ⟨Lc, hQ, l1, y1, z1⟩, st⟩ := X.st.virtualBack X.hx X.hown (mvT X.hZ w1) (mvT X.hZ wd) hnf (mvT X.hZ ws) (mvT X.hZ w2) hy (backOf (Q := fun v h' L => Fr n0 L ∧ Old Z n0 h' ∧ h.size ≤ h'.size ∧ Q' v h') (W := (S.map fun v => v.category).sum) (D X.old) X.hZ w4 w3 hf hl) qa qc (g := mkF m pc L stk) rfl (by rw [X.hml]; exact hsz) (Steps.refl _) (argsL := argsL) (rest := S) (lenOf hpd hlen) hst (by show 2 * 0 + _ ≤ _; omega) (X.hb hd) (fun _ _ => ⟨rfl, X.eh, hc, hs⟩)
  dsimp only [Pt.U, Pt.locs, Pt.cells, Pt.slots] at X' l1 y1 z1 st hQ
  subst l1 y1 z1
  exact Wp.tr st (K T' _ v Lc (X.mk' X' rfl (X.fr.app hQ.1) hQ.2.1 hQ.2.2.1) hQ.2.2.2)
theorem w_callP (X : Sd Z n0 kk code ml own nm ret h p l e R s m args below meth c T locs cells slots) {y : MethodName} {bytes : ByteArray} {maxL : Nat} {ret' : Option FieldType} {rm : Room} {index : Nat} {Q' : Option Value → Heap → Prop} {ps : List FieldType} {rr : Option FieldType} {stk : List Value} (hd : Dc code pc (.invokevirtual index) 3 pc') (w1 : (Cond.methodLink own index y).before a0 Z = true) (w2 : (Cond.instanceMethod y).before a0 Z = true) (ws : (Cond.selects y.cls y y).before a0 Z = true) (wp : (Cond.privateMethod y).before a0 Z = true) (w3 : (Cond.initialized y.cls).before a0 Z = true) (w4 : (Cond.code y bytes maxL ret').before a0 Z = true) (hy : y.cls ≠ "java/lang/invoke/MethodHandle" ∧ y.cls ≠ "java/lang/invoke/VarHandle") {a : Addr} {C : String} (E : Exa Z h a C) {argsL : List Value} (D : Does l Z n0 y bytes maxL ret' [] rm (.ref a :: argsL).toArray h Q') (hpd : parseMethodDescriptor y.desc = some ⟨ps, rr⟩) (hlen : argsL.length = ps.length) (hst : stk = argsL.reverse ++ .ref a :: S) (hsz : L.size = ml) (hf : rm.frames + 1 ≤ R.frames) (hl : (S.map fun v => v.category).sum + (maxL + 11) + rm.locals ≤ R.locals) (hc : cells + rm.cells ≤ R.cells) (hs : slots + rm.slots ≤ R.slots) (K : ∀ T' h' v L', Sd Z n0 kk code ml own nm ret h' p l e R s m args below meth c T' (locs ++ L') (cells + rm.cells) (slots + rm.slots) → Q' v h' → Wp p e below P (T'.setTop (mkF m pc' L (v.toList ++ S)))) : Wp p e below P (T.setTop (mkF m pc L stk)) := by
  obtain ⟨hd, rfl⟩ := hd
  obtain ⟨cq, qa, qb⟩ := E.cell
  obtain ⟨v, vm1, ⟨T', L1, k1, n1⟩, -, X', ⟨Lc, hQ, l1, y1, z1⟩, st⟩ := X.st.privateBack X.hx X.hown (mvT X.hZ w1) (mvT X.hZ w2) (mvT X.hZ ws) (Cond.privateMethod_at (mvP X.hZ wp (args := #[]))) (mvT X.hZ w4) hy (backOf (Q := fun v h' L => Fr n0 L ∧ Old Z n0 h' ∧ h.size ≤ h'.size ∧ Q' v h') (W := (S.map fun v => v.category).sum) (D X.old) X.hZ w4 w3 hf hl) (g := mkF m pc L stk) rfl (by rw [X.hml]; exact hsz) (Steps.refl _) (a := a) (by rw [X.eh]; exact qa) qb (argsL := argsL) (rest := S) (lenOf hpd hlen) hst (by show 2 * 0 + _ ≤ _; omega) (X.hb hd) (fun _ _ => ⟨rfl, X.eh, hc, hs⟩)
  dsimp only [Pt.U, Pt.locs, Pt.cells, Pt.slots] at X' l1 y1 z1 st hQ
  subst l1 y1 z1
  exact Wp.tr st (K T' _ v Lc (X.mk' X' rfl (X.fr.app hQ.1) hQ.2.1 hQ.2.2.1) hQ.2.2.2)
theorem w_callU (X : Sd Z n0 kk code ml own nm ret h p l e R s m args below meth c T locs cells slots) {y : MethodName} {bytes : ByteArray} {maxL : Nat} {ret' : Option FieldType} {rm : Room} {index : Nat} {Q' : Option Value → Heap → Prop} {ps : List FieldType} {rr : Option FieldType} {stk : List Value} {z : MethodName} {C owner : String} (hd : Dc code pc (.invokevirtual index) 3 pc') (w1 : (Cond.methodLink own index y).before a0 Z = true) (wsm : (Cond.sameMethod y.cls owner y.name y.desc).before a0 Z = true) (wd : (Cond.declares ⟨owner, y.name, y.desc⟩).before a0 Z = true) (ho : owner ≠ "java/lang/invoke/MethodHandle" ∧ owner ≠ "java/lang/invoke/VarHandle") (ws : (Cond.selects C y z).before a0 Z = true) (w2 : (Cond.instanceMethod z).before a0 Z = true) (w3 : (Cond.initialized z.cls).before a0 Z = true) (w4 : (Cond.code z bytes maxL ret').before a0 Z = true) {a : Addr} (E : Exa Z h a C) {argsL : List Value} (D : Does l Z n0 z bytes maxL ret' [] rm (.ref a :: argsL).toArray h Q') (hpd : parseMethodDescriptor y.desc = some ⟨ps, rr⟩) (hlen : argsL.length = ps.length) (hst : stk = argsL.reverse ++ .ref a :: S) (hsz : L.size = ml) (hf : rm.frames + 1 ≤ R.frames) (hl : (S.map fun v => v.category).sum + (maxL + 11) + rm.locals ≤ R.locals) (hc : cells + rm.cells ≤ R.cells) (hs : slots + rm.slots ≤ R.slots) (K : ∀ T' h' v L', Sd Z n0 kk code ml own nm ret h' p l e R s m args below meth c T' (locs ++ L') (cells + rm.cells) (slots + rm.slots) → Q' v h' → Wp p e below P (T'.setTop (mkF m pc' L (v.toList ++ S)))) : Wp p e below P (T.setTop (mkF m pc L stk)) := by
  obtain ⟨hd, rfl⟩ := hd
  obtain ⟨cq, kq, qa, qb, qc⟩ := isOf X.hZ X.eh E
  obtain ⟨v, vm1, ⟨T', L1, k1, n1⟩, -, X', ⟨Lc, hQ, l1, y1, z1⟩, st⟩ := X.st.virtualBackUp X.hx X.hown (mvT X.hZ w1) (mvT X.hZ wsm) (mvT X.hZ wd) ho (mvT X.hZ ws) (mvT X.hZ w2) (backOf (Q := fun v h' L => Fr n0 L ∧ Old Z n0 h' ∧ h.size ≤ h'.size ∧ Q' v h') (W := (S.map fun v => v.category).sum) (D X.old) X.hZ w4 w3 hf hl) qa qc (g := mkF m pc L stk) rfl (by rw [X.hml]; exact hsz) (Steps.refl _) (argsL := argsL) (rest := S) (lenOf hpd hlen) hst (by show 2 * 0 + _ ≤ _; omega) (X.hb hd) (fun _ _ => ⟨rfl, X.eh, hc, hs⟩)
  dsimp only [Pt.U, Pt.locs, Pt.cells, Pt.slots] at X' l1 y1 z1 st hQ
  subst l1 y1 z1
  exact Wp.tr st (K T' _ v Lc (X.mk' X' rfl (X.fr.app hQ.1) hQ.2.1 hQ.2.2.1) hQ.2.2.2)
end Steps2
end Jvm.RoadKit
namespace Jvm.RoadKit
open Sem ClassFile Op Lib Jvm.Stand Jvm.Free Jvm.LawKit
/-- at a lies an array of component type ty that holds just these values -/
def Ary (Z : State) (h : Heap) (a : Addr) (ty : FieldType) (vs : List Value) : Prop := ∃ c : Cell, Arr Z h a c ty ∧ c.slots = vs.toArray ∧ vs.length < 2 ^ 31 ∧ ∀ v ∈ vs, fits ty v = true
section Ary
variable {Z : State} {h h' : Heap} {a b : Addr} {ty : FieldType} {vs : List Value} {sl : Nat} {v : Value} {ws : List Addr}
theorem Ary.lt (A : Ary Z h a ty vs) : a < h.size := by obtain ⟨c, A, -⟩ := A; exact A.lt
theorem Ary.ext (A : Ary Z h a ty vs) (E : Ext h h') : Ary Z h' a ty vs := by obtain ⟨c, A, r⟩ := A; exact ⟨c, A.ext E, r⟩
theorem Ary.other (A : Ary Z h b ty vs) (W : Wr h h' a sl v) (q : b ≠ a) : Ary Z h' b ty vs := by obtain ⟨c, A, r⟩ := A; exact ⟨c, A.other W q, r⟩
theorem Ary.keep (A : Ary Z h a ty vs) (K : Keep h h' ws) (q : a ∉ ws) : Ary Z h' a ty vs := by obtain ⟨c, A, r⟩ := A; exact ⟨c, ⟨K.2.1 a c A.1 q, A.2⟩, r⟩
theorem Ary.set (A : Ary Z h a ty vs) {j : Nat} (hf : fits ty v = true) (W : Wr h h' a j v) : Ary Z h' a ty (vs.set j v) := by
  obtain ⟨c, A, e, l, f⟩ := A
  refine ⟨c.setSlot j v, A.same W, ?_, by rw [List.length_set]; exact l, fun u hu => ?_⟩
  · show c.slots.setIfInBounds j v = _
    rw [e]; simp
  · rcases List.mem_or_eq_of_mem_set hu with q | rfl
    · exact f _ q
    · exact hf
theorem Ary.size {c : Cell} (e : c.slots = vs.toArray) : c.slots.size = vs.length := by rw [e]; simp
theorem own_inb {c : Cell} {j : Int32} (e : c.slots = vs.toArray) (hj : ¬ j < 0) (hv : vs[j.toNatClampNeg]? = some v) : ¬ (j < 0 ∨ c.slots.size ≤ j.toNatClampNeg) := by
  rw [Ary.size e]
  have := (List.getElem?_eq_some_iff.mp hv).1
  rintro (q | q)
  · exact hj q
  · omega
theorem own_at {c : Cell} {j : Nat} (e : c.slots = vs.toArray) (hv : vs[j]? = some v) : c.slots[j]? = some v := by rw [e]; simpa using hv
theorem Ary.new {cA : ClassId} {n : Int32} {k : Nat} (A : Arr Z h a (newA cA ty n) ty) (hk : n.toNatClampNeg = k) (hd : fits ty (defaultValue ty) = true) : Ary Z h a ty (List.replicate k (defaultValue ty)) := by
  refine ⟨_, A, ?_, ?_, fun v hv => by rw [(List.mem_replicate.mp hv).2]; exact hd⟩
  · show Array.replicate n.toNatClampNeg (defaultValue ty) = _
    rw [hk]; simp
  · rw [List.length_replicate, ← hk]; have := Int32.toInt_lt n; simp only [Int32.toNatClampNeg]; omega
/-- the kit's form of the same, and back -/
theorem Ary.arv (A : Ary Z h a ty vs) {z : Int32} {d : Value} (hz : ¬ z < 0) (hl : z.toNatClampNeg = vs.length) : ∃ k, Arv Z h a k ty z vs d := by
  obtain ⟨c, A, e, l, f⟩ := A
  have hs := Ary.size e
  have g : ∀ i, i < c.slots.size → vs[i]? = some (vs.getD i d) := fun i hi => by
    rw [hs] at hi; simp [List.getD_eq_getElem?_getD, List.getElem?_eq_getElem hi]
  exact ⟨c.cls, c, A, rfl, by rw [hs, hl], hz, fun i hi => own_at e (g i hi), fun i hi => f _ (List.mem_of_getElem? (g i hi))⟩
theorem Ary.ofArv {k : ClassId} {z : Int32} {d : Value} (A : Arv Z h a k ty z vs d) (hl : z.toNatClampNeg = vs.length) : Ary Z h a ty vs := by
  obtain ⟨c, A, -, s1, s2, H, G⟩ := A
  have e : c.slots = vs.toArray := by
    refine Array.ext (by simp [s1, hl]) fun i h1 h2 => ?_
    have q := H i h1
    have h3 : i < vs.length := by simpa using h2
    rw [Array.getElem?_eq_getElem h1] at q
    have q' := Option.some.inj q
    rw [q']; simp [List.getD_eq_getElem?_getD, List.getElem?_eq_getElem h3]
  refine ⟨c, A, e, ?_, fun v hv => ?_⟩
  · rw [← hl]; have := Int32.toInt_lt z; simp only [Int32.toNatClampNeg]; omega
  · obtain ⟨i, hi, rfl⟩ := List.getElem_of_mem hv
    have q := G i (by rw [Ary.size e]; exact hi)
    simpa [List.getD_eq_getElem?_getD, List.getElem?_eq_getElem hi] using q
end Ary
section StepsA
variable {Z : State} {n0 kk : Nat} {code : ByteArray} {ml : Nat} {own nm : String} {ret : Option FieldType} {h : Heap} {p : Program} {l : Launch} {e : Env} {R : Room} {s : State} {m : MethodId} {args : Array Value} {below : List Frame} {meth : Method} {c : Code} {T : State} {locs : List Loc} {cells slots : Nat} {P : State → Outcome → Prop} {a0 : Array Value} {pc pc' : Nat} {L : Array Slot} {S : List Value}
theorem w_newarr (X : Sd Z n0 kk code ml own nm ret h p l e R s m args below meth c T locs cells slots) {aty : ArrayType} {n : Int32} (hd : Dc code pc (.newarray aty) 2 pc') (w : (Cond.arrayClass (newarray.typeOf aty)).before a0 Z = true) (k cap : Nat) (hn : ¬ n < 0) (hk : n.toNatClampNeg = k) (hcap : k ≤ cap) (hbig : cap * 8 ≤ 536870912) (hc : cells + 1 ≤ R.cells) (hl : slots + cap ≤ R.slots) (K : ∀ T' h' b, b = h.size → n0 ≤ b → Sd Z n0 kk code ml own nm ret h' p l e R s m args below meth c T' locs (cells + 1) (slots + cap) → Ext h h' → Ary Z h' b (newarray.typeOf aty) (List.replicate k (defaultValue (newarray.typeOf aty))) → Wp p e below P (T'.setTop (mkF m pc' L (.ref b :: S)))) : Wp p e below P (T.setTop (mkF m pc L (.int n :: S))) := by
  obtain ⟨hd, rfl⟩ := hd
  obtain ⟨T', h', cA, X', e', E, A, st⟩ := newP X.st X.hx X.hZ w X.eh (g := mkF m pc L (.int n :: S)) rfl (X.hb hd) rfl hn (cap := cap) (hk ▸ hcap) hbig hc hl
  exact Wp.of st (K T' h' _ rfl (X.old.1 ▸ X.old.2.1) (X.mk' X' e' X.fr (X.old.ext E) E.1) E (Ary.new A hk (by cases aty <;> rfl)))
theorem w_iaload (X : Sd Z n0 kk code ml own nm ret h p l e R s m args below meth c T locs cells slots) {a : Addr} {j : Int32} {vs : List Value} {v : Value} (hd : Dc code pc .iaload 1 pc') (A : Ary Z h a .int vs) (hj : ¬ j < 0) (hv : vs[j.toNatClampNeg]? = some v) (K : Wp p e below P (T.setTop (mkF m pc' L (v :: S)))) : Wp p e below P (T.setTop (mkF m pc L (.int j :: .ref a :: S))) := by
  obtain ⟨hd, rfl⟩ := hd
  obtain ⟨c', A, e, -⟩ := A
  exact Wp.of (fun _ k => X.st.iaload X.hx (by rw [X.eh]; exact A.1) (State.isArrayOf_alike X.hZ.alike A.2.1) A.2.2 (own_inb e hj hv) (own_at e hv) (g := mkF m pc L (.int j :: .ref a :: S)) rfl rfl (X.hb hd) _ k) K
theorem w_laload (X : Sd Z n0 kk code ml own nm ret h p l e R s m args below meth c T locs cells slots) {a : Addr} {j : Int32} {vs : List Value} {v : Value} (hd : Dc code pc .laload 1 pc') (A : Ary Z h a .long vs) (hj : ¬ j < 0) (hv : vs[j.toNatClampNeg]? = some v) (K : Wp p e below P (T.setTop (mkF m pc' L (v :: S)))) : Wp p e below P (T.setTop (mkF m pc L (.int j :: .ref a :: S))) := by
  obtain ⟨hd, rfl⟩ := hd
  obtain ⟨c', A, e, -⟩ := A
  exact Wp.of (fun _ k => X.st.laload X.hx (by rw [X.eh]; exact A.1) (State.isArrayOf_alike X.hZ.alike A.2.1) A.2.2 (own_inb e hj hv) (own_at e hv) (g := mkF m pc L (.int j :: .ref a :: S)) rfl rfl (X.hb hd) _ k) K
theorem w_caload (X : Sd Z n0 kk code ml own nm ret h p l e R s m args below meth c T locs cells slots) {a : Addr} {j : Int32} {vs : List Value} {v : Value} (hd : Dc code pc .caload 1 pc') (A : Ary Z h a .char vs) (hj : ¬ j < 0) (hv : vs[j.toNatClampNeg]? = some v) (K : Wp p e below P (T.setTop (mkF m pc' L (v :: S)))) : Wp p e below P (T.setTop (mkF m pc L (.int j :: .ref a :: S))) := by
  obtain ⟨hd, rfl⟩ := hd
  obtain ⟨c', A, e, -⟩ := A
  exact Wp.of (fun _ k => X.st.caload X.hx (by rw [X.eh]; exact A.1) (State.isArrayOf_alike X.hZ.alike A.2.1) A.2.2 (own_inb e hj hv) (own_at e hv) (g := mkF m pc L (.int j :: .ref a :: S)) rfl rfl (X.hb hd) _ k) K
theorem w_saload (X : Sd Z n0 kk code ml own nm ret h p l e R s m args below meth c T locs cells slots) {a : Addr} {j : Int32} {vs : List Value} {v : Value} (hd : Dc code pc .saload 1 pc') (A : Ary Z h a .short vs) (hj : ¬ j < 0) (hv : vs[j.toNatClampNeg]? = some v) (K : Wp p e below P (T.setTop (mkF m pc' L (v :: S)))) : Wp p e below P (T.setTop (mkF m pc L (.int j :: .ref a :: S))) := by
  obtain ⟨hd, rfl⟩ := hd
  obtain ⟨c', A, e, -⟩ := A
  exact Wp.of (fun _ k => X.st.saload X.hx (by rw [X.eh]; exact A.1) (State.isArrayOf_alike X.hZ.alike A.2.1) A.2.2 (own_inb e hj hv) (own_at e hv) (g := mkF m pc L (.int j :: .ref a :: S)) rfl rfl (X.hb hd) _ k) K
theorem w_baload (X : Sd Z n0 kk code ml own nm ret h p l e R s m args below meth c T locs cells slots) {a : Addr} {j : Int32} {vs : List Value} {v : Value} (hd : Dc code pc .baload 1 pc') (A : Ary Z h a .byte vs) (hj : ¬ j < 0) (hv : vs[j.toNatClampNeg]? = some v) (K : Wp p e below P (T.setTop (mkF m pc' L (v :: S)))) : Wp p e below P (T.setTop (mkF m pc L (.int j :: .ref a :: S))) := by
  obtain ⟨hd, rfl⟩ := hd
  obtain ⟨c', A, e, -⟩ := A
  exact Wp.of (fun _ k => X.st.baloadBytes X.hx (by rw [X.eh]; exact A.1) (State.isArrayOf_alike X.hZ.alike A.2.1) A.2.2 (own_inb e hj hv) (own_at e hv) (g := mkF m pc L (.int j :: .ref a :: S)) rfl rfl (X.hb hd) _ k) K
theorem w_aaload (X : Sd Z n0 kk code ml own nm ret h p l e R s m args below meth c T locs cells slots) {a : Addr} {j : Int32} {vs : List Value} {v : Value} {ty : FieldType} (hd : Dc code pc .aaload 1 pc') (A : Ary Z h a ty vs) (ht : ty.isReference = true) (hj : ¬ j < 0) (hv : vs[j.toNatClampNeg]? = some v) (K : Wp p e below P (T.setTop (mkF m pc' L (v :: S)))) : Wp p e below P (T.setTop (mkF m pc L (.int j :: .ref a :: S))) := by
  obtain ⟨hd, rfl⟩ := hd
  obtain ⟨c', A, e, -⟩ := A
  exact Wp.of (fun _ k => X.st.aaload X.hx (by rw [X.eh]; exact A.1) (State.isArrayOf_alike X.hZ.alike A.2.1) ht A.2.2 (own_inb e hj hv) (own_at e hv) (g := mkF m pc L (.int j :: .ref a :: S)) rfl rfl (X.hb hd) _ k) K
theorem w_arrlen (X : Sd Z n0 kk code ml own nm ret h p l e R s m args below meth c T locs cells slots) {a : Addr} {vs : List Value} {ty : FieldType} (n : Int32) (hd : Dc code pc .arraylength 1 pc') (A : Ary Z h a ty vs) (hn : vs.length.toInt32 = n) (K : Wp p e below P (T.setTop (mkF m pc' L (.int n :: S)))) : Wp p e below P (T.setTop (mkF m pc L (.ref a :: S))) := by
  obtain ⟨hd, rfl⟩ := hd
  obtain ⟨c', A, e, -⟩ := A
  exact Wp.of (fun _ k => X.st.arraylength X.hx (by rw [X.eh]; exact A.1) (State.isArrayOf_alike X.hZ.alike A.2.1) (g := mkF m pc L (.ref a :: S)) rfl rfl (X.hb hd) _ (by rw [Ary.size e, hn]; exact k)) K
theorem w_iastore (X : Sd Z n0 kk code ml own nm ret h p l e R s m args below meth c T locs cells slots) {a : Addr} {j : Int32} {x : Int32} {vs : List Value} {u : Value} (hd : Dc code pc .iastore 1 pc') (A : Ary Z h a .int vs) (hj : ¬ j < 0) (hv : vs[j.toNatClampNeg]? = some u) (ga : n0 ≤ a) (v' : Value) (e' : (.int x : Value) = v') (vs' : List Value) (hs : vs.set j.toNatClampNeg v' = vs') (K : ∀ T' h', Sd Z n0 kk code ml own nm ret h' p l e R s m args below meth c T' (locs ++ [⟨a, j.toNatClampNeg⟩]) cells slots → Wr h h' a j.toNatClampNeg v' → Ary Z h' a .int vs' → Wp p e below P (T'.setTop (mkF m pc' L S))) : Wp p e below P (T.setTop (mkF m pc L (.int x :: .int j :: .ref a :: S))) := by
  subst e' hs
  obtain ⟨hd, rfl⟩ := hd
  have A0 := A
  obtain ⟨c', A, e, -⟩ := A
  obtain ⟨T', h', X', e', W, st⟩ := stI X.st X.hx X.hZ X.eh A (own_inb e hj hv) (g := mkF m pc L (.int x :: .int j :: .ref a :: S)) rfl rfl (X.hb hd)
  exact Wp.of st (K T' h' (X.mk' X' e' (Fr.snoc X' X.fr ga) (X.old.wr W ga) (Nat.le_of_eq W.size.symm)) W (A0.set rfl W))
theorem w_lastore (X : Sd Z n0 kk code ml own nm ret h p l e R s m args below meth c T locs cells slots) {a : Addr} {j : Int32} {x : Int64} {vs : List Value} {u : Value} (hd : Dc code pc .lastore 1 pc') (A : Ary Z h a .long vs) (hj : ¬ j < 0) (hv : vs[j.toNatClampNeg]? = some u) (ga : n0 ≤ a) (v' : Value) (e' : (.long x : Value) = v') (vs' : List Value) (hs : vs.set j.toNatClampNeg v' = vs') (K : ∀ T' h', Sd Z n0 kk code ml own nm ret h' p l e R s m args below meth c T' (locs ++ [⟨a, j.toNatClampNeg⟩]) cells slots → Wr h h' a j.toNatClampNeg v' → Ary Z h' a .long vs' → Wp p e below P (T'.setTop (mkF m pc' L S))) : Wp p e below P (T.setTop (mkF m pc L (.long x :: .int j :: .ref a :: S))) := by
  subst e' hs
  obtain ⟨hd, rfl⟩ := hd
  have A0 := A
  obtain ⟨c', A, e, -⟩ := A
  obtain ⟨T', h', X', e', W, st⟩ := stJ X.st X.hx X.hZ X.eh A (own_inb e hj hv) (g := mkF m pc L (.long x :: .int j :: .ref a :: S)) rfl rfl (X.hb hd)
  exact Wp.of st (K T' h' (X.mk' X' e' (Fr.snoc X' X.fr ga) (X.old.wr W ga) (Nat.le_of_eq W.size.symm)) W (A0.set rfl W))
theorem w_castore (X : Sd Z n0 kk code ml own nm ret h p l e R s m args below meth c T locs cells slots) {a : Addr} {j : Int32} {x : Int32} {vs : List Value} {u : Value} (hd : Dc code pc .castore 1 pc') (A : Ary Z h a .char vs) (hj : ¬ j < 0) (hv : vs[j.toNatClampNeg]? = some u) (ga : n0 ≤ a) (v' : Value) (e' : (.int (nar .char x) : Value) = v') (vs' : List Value) (hs : vs.set j.toNatClampNeg v' = vs') (K : ∀ T' h', Sd Z n0 kk code ml own nm ret h' p l e R s m args below meth c T' (locs ++ [⟨a, j.toNatClampNeg⟩]) cells slots → Wr h h' a j.toNatClampNeg v' → Ary Z h' a .char vs' → Wp p e below P (T'.setTop (mkF m pc' L S))) : Wp p e below P (T.setTop (mkF m pc L (.int x :: .int j :: .ref a :: S))) := by
  subst e' hs
  obtain ⟨hd, rfl⟩ := hd
  have A0 := A
  obtain ⟨c', A, e, -⟩ := A
  obtain ⟨T', h', X', e', W, st⟩ := stC X.st X.hx X.hZ X.eh A (own_inb e hj hv) (g := mkF m pc L (.int x :: .int j :: .ref a :: S)) rfl rfl (X.hb hd)
  exact Wp.of st (K T' h' (X.mk' X' e' (Fr.snoc X' X.fr ga) (X.old.wr W ga) (Nat.le_of_eq W.size.symm)) W (A0.set (fits_nar_char _) W))
theorem w_sastore (X : Sd Z n0 kk code ml own nm ret h p l e R s m args below meth c T locs cells slots) {a : Addr} {j : Int32} {x : Int32} {vs : List Value} {u : Value} (hd : Dc code pc .sastore 1 pc') (A : Ary Z h a .short vs) (hj : ¬ j < 0) (hv : vs[j.toNatClampNeg]? = some u) (ga : n0 ≤ a) (v' : Value) (e' : (.int (nar .short x) : Value) = v') (vs' : List Value) (hs : vs.set j.toNatClampNeg v' = vs') (K : ∀ T' h', Sd Z n0 kk code ml own nm ret h' p l e R s m args below meth c T' (locs ++ [⟨a, j.toNatClampNeg⟩]) cells slots → Wr h h' a j.toNatClampNeg v' → Ary Z h' a .short vs' → Wp p e below P (T'.setTop (mkF m pc' L S))) : Wp p e below P (T.setTop (mkF m pc L (.int x :: .int j :: .ref a :: S))) := by
  subst e' hs
  obtain ⟨hd, rfl⟩ := hd
  have A0 := A
  obtain ⟨c', A, e, -⟩ := A
  obtain ⟨T', h', X', e', W, st⟩ := stS X.st X.hx X.hZ X.eh A (own_inb e hj hv) (g := mkF m pc L (.int x :: .int j :: .ref a :: S)) rfl rfl (X.hb hd)
  exact Wp.of st (K T' h' (X.mk' X' e' (Fr.snoc X' X.fr ga) (X.old.wr W ga) (Nat.le_of_eq W.size.symm)) W (A0.set (fits_nar_short _) W))
theorem w_bastore (X : Sd Z n0 kk code ml own nm ret h p l e R s m args below meth c T locs cells slots) {a : Addr} {j : Int32} {x : Int32} {vs : List Value} {u : Value} (hd : Dc code pc .bastore 1 pc') (A : Ary Z h a .byte vs) (hj : ¬ j < 0) (hv : vs[j.toNatClampNeg]? = some u) (ga : n0 ≤ a) (v' : Value) (e' : (.int (nar .byte x) : Value) = v') (vs' : List Value) (hs : vs.set j.toNatClampNeg v' = vs') (K : ∀ T' h', Sd Z n0 kk code ml own nm ret h' p l e R s m args below meth c T' (locs ++ [⟨a, j.toNatClampNeg⟩]) cells slots → Wr h h' a j.toNatClampNeg v' → Ary Z h' a .byte vs' → Wp p e below P (T'.setTop (mkF m pc' L S))) : Wp p e below P (T.setTop (mkF m pc L (.int x :: .int j :: .ref a :: S))) := by
  subst e' hs
  obtain ⟨hd, rfl⟩ := hd
  have A0 := A
  obtain ⟨c', A, e, -⟩ := A
  obtain ⟨T', h', X', e', W, st⟩ := stB X.st X.hx X.hZ X.eh A (own_inb e hj hv) (g := mkF m pc L (.int x :: .int j :: .ref a :: S)) rfl rfl (X.hb hd)
  exact Wp.of st (K T' h' (X.mk' X' e' (Fr.snoc X' X.fr ga) (X.old.wr W ga) (Nat.le_of_eq W.size.symm)) W (A0.set (fits_nar_byte _) W))
theorem w_zastore (X : Sd Z n0 kk code ml own nm ret h p l e R s m args below meth c T locs cells slots) {a : Addr} {j : Int32} {x : Int32} {vs : List Value} {u : Value} (hd : Dc code pc .bastore 1 pc') (A : Ary Z h a .boolean vs) (hj : ¬ j < 0) (hv : vs[j.toNatClampNeg]? = some u) (ga : n0 ≤ a) (v' : Value) (e' : (.int (nar .boolean x) : Value) = v') (vs' : List Value) (hs : vs.set j.toNatClampNeg v' = vs') (K : ∀ T' h', Sd Z n0 kk code ml own nm ret h' p l e R s m args below meth c T' (locs ++ [⟨a, j.toNatClampNeg⟩]) cells slots → Wr h h' a j.toNatClampNeg v' → Ary Z h' a .boolean vs' → Wp p e below P (T'.setTop (mkF m pc' L S))) : Wp p e below P (T.setTop (mkF m pc L (.int x :: .int j :: .ref a :: S))) := by
  subst e' hs
  obtain ⟨hd, rfl⟩ := hd
  have A0 := A
  obtain ⟨c', A, e, -⟩ := A
  obtain ⟨T', h', X', e', W, st⟩ := stZ X.st X.hx X.hZ X.eh A (own_inb e hj hv) (g := mkF m pc L (.int x :: .int j :: .ref a :: S)) rfl rfl (X.hb hd)
  exact Wp.of st (K T' h' (X.mk' X' e' (Fr.snoc X' X.fr ga) (X.old.wr W ga) (Nat.le_of_eq W.size.symm)) W (A0.set (fits_nar_bool _) W))
theorem w_cast (X : Sd Z n0 kk code ml own nm ret h p l e R s m args below meth c T locs cells slots) {K0 : String} {index : Nat} {a : Addr} (hd : Dc code pc (.checkcast index) 3 pc') (w : (Cond.classLink own index K0).before a0 Z = true) (F : Ins Z h a K0 true) (K : ∀ T', Sd Z n0 kk code ml own nm ret h p l e R s m args below meth c T' locs cells slots → Wp p e below P (T'.setTop (mkF m pc' L (.ref a :: S)))) : Wp p e below P (T.setTop (mkF m pc L (.ref a :: S))) := by
  obtain ⟨hd, rfl⟩ := hd
  obtain ⟨T', X', e', st⟩ := castY X.st X.hx X.hZ X.hown w X.eh F (g := mkF m pc L (.ref a :: S)) rfl rfl (X.hb hd)
  exact Wp.of st (K T' (X.mk' X' e' X.fr X.old (Nat.le_refl _)))
theorem w_inst (X : Sd Z n0 kk code ml own nm ret h p l e R s m args below meth c T locs cells slots) {K0 : String} {index : Nat} {a : Addr} (hd : Dc code pc (.instanceof index) 3 pc') (w : (Cond.classLink own index K0).before a0 Z = true) (F : Ins Z h a K0 true) (K : ∀ T', Sd Z n0 kk code ml own nm ret h p l e R s m args below meth c T' locs cells slots → Wp p e below P (T'.setTop (mkF m pc' L (.int (1 : Int32) :: S)))) : Wp p e below P (T.setTop (mkF m pc L (.ref a :: S))) := by
  obtain ⟨hd, rfl⟩ := hd
  obtain ⟨T', X', e', st⟩ := instY X.st X.hx X.hZ X.hown w X.eh F (g := mkF m pc L (.ref a :: S)) rfl rfl (X.hb hd)
  exact Wp.of st (K T' (X.mk' X' e' X.fr X.old (Nat.le_refl _)))
end StepsA
end Jvm.RoadKit
namespace Jvm.RoadKit
open Sem ClassFile Op Lib Jvm.Stand Jvm.Free Jvm.LawKit
def PoW (Z : State) (n0 : Nat) (s : State) (Q : Option Value → Heap → Prop) (ce sl : Nat) : State → Outcome → Prop := fun U o => ∃ v L, o = .returned v ∧ (Fr n0 L ∧ Old Z n0 U.heap ∧ s.heap.size ≤ U.heap.size ∧ Q v U.heap) ∧ ReturnedEndW s o U L ce sl
def DoesW (l : Launch) (Z : State) (n0 : Nat) (y : MethodName) (code : ByteArray) (ml : Nat) (ret : Option FieldType) (ws : List Cond) (rm : Room) (as' : Array Value) (h0 : Heap) (Q : Option Value → Heap → Prop) : Prop :=
  Old Z n0 h0 → MetFree l y (head1 (Cond.code y code ml ret :: ws) rm) (fun a U => a = as' ∧ Z.Warmed39 U.vm ∧ U.heap = h0) (fun _ _ _ _ _ => True) (fun _ U o U' => ∃ v L, o = .returned v ∧ (Fr n0 L ∧ Old Z n0 U'.heap ∧ h0.size ≤ U'.heap.size ∧ Q v U'.heap) ∧ ReturnedEndW U o U' L rm.cells rm.slots)
theorem DoesW.start {l : Launch} {Z : State} {n0 : Nat} {y : MethodName} {code : ByteArray} {ml : Nat} {ret : Option FieldType} {ws : List Cond} {rm : Room} {as' : Array Value} {h0 : Heap} {Q : Option Value → Heap → Prop} (hp : plainFor y = true)
    (body : ∀ p e s m below meth c s₁, Sd Z n0 0 code ml y.cls y.name ret h0 p l e rm (s.setVm s.vm) m as' below meth c s₁ [] 0 0 → s.Since s.vm 0 → s.heap = h0 → Wp p e below (PoW Z n0 s Q rm.cells rm.slots) (s₁.setTop (entryFrame m as' ml))) : DoesW l Z n0 y code ml ret ws rm as' h0 Q := by
  intro hold
  refine MetFree.of_bodySF hp hisR ?_
  intro p e s m args below meth c s₁ Bd hml0 hP hK
  obtain ⟨rfl, hZ, hh⟩ := hP
  have hh' := hh
  subst hh
  exact body p e s m below meth c s₁ ⟨Stand.of_body Bd, ⟨Bd.exec, Bd.bytes, hml0, findClass_of_methodNamed Bd.named, hZ, Bd.returns, (name_of_methodNamed Bd.named Bd.method).1, Bd.notSynchronized⟩, by rw [Bd.state]; rfl, Fr.nil n0, hold, Nat.zero_le _⟩ ((State.WarmedH.refl s).since 0) rfl
theorem DoesW.mono {l : Launch} {Z : State} {n0 : Nat} {y : MethodName} {code : ByteArray} {ml : Nat} {ret : Option FieldType} {ws : List Cond} {rm : Room} {as' : Array Value} {h0 : Heap} {Q Q' : Option Value → Heap → Prop} (D : DoesW l Z n0 y code ml ret ws rm as' h0 Q) (f : ∀ v h, Q v h → Q' v h) : DoesW l Z n0 y code ml ret ws rm as' h0 Q' := by
  intro hold p e ha hc hk s m args below hf happ hP hK
  obtain ⟨n, o, h1, h2, h3, v, L, e1, ⟨q1, q2, q2', q3⟩, q4⟩ := D hold p e ha hc hk s m args below hf happ hP hK
  exact ⟨n, o, h1, h2, h3, v, L, e1, ⟨q1, q2, q2', f _ _ q3⟩, q4⟩
/-- the law's own contract: at the start Z itself -/
def DoesL (l : Launch) (Z : State) (n0 : Nat) (y : MethodName) (code : ByteArray) (ml : Nat) (ret : Option FieldType) (ws : List Cond) (rm : Room) (as' : Array Value) (Q : Option Value → Heap → Prop) : Prop :=
  MetFree l y (head1 (Cond.code y code ml ret :: ws) rm) (fun a U => a = as' ∧ U = Z) (fun _ _ _ _ _ => True) (fun _ U o U' => ∃ v L, o = .returned v ∧ (Fr n0 L ∧ Old Z n0 U'.heap ∧ U.heap.size ≤ U'.heap.size ∧ Q v U'.heap) ∧ ReturnedEndW U o U' L rm.cells rm.slots)
theorem DoesL.start {l : Launch} {Z : State} {n0 : Nat} {y : MethodName} {code : ByteArray} {ml : Nat} {ret : Option FieldType} {ws : List Cond} {rm : Room} {as' : Array Value} {Q : Option Value → Heap → Prop} (hn0 : Z.heap.size = n0) (hp : plainFor y = true)
    (body : ∀ p e s m below meth c s₁, Sd Z n0 0 code ml y.cls y.name ret Z.heap p l e rm (s.setVm s.vm) m as' below meth c s₁ [] 0 0 → s.Since s.vm 0 → s = Z → Wp p e below (PoW Z n0 s Q rm.cells rm.slots) (s₁.setTop (entryFrame m as' ml))) : DoesL l Z n0 y code ml ret ws rm as' Q := by
  refine MetFree.of_bodySF hp hisR ?_
  intro p e s m args below meth c s₁ Bd hml0 hP hK
  obtain ⟨rfl, hh⟩ := hP
  have hh' := hh
  subst hh
  exact body p e s m below meth c s₁ ⟨Stand.of_body Bd, ⟨Bd.exec, Bd.bytes, hml0, findClass_of_methodNamed Bd.named, State.Warmed39.refl s, Bd.returns, (name_of_methodNamed Bd.named Bd.method).1, Bd.notSynchronized⟩, by rw [Bd.state]; rfl, Fr.nil n0, hn0 ▸ Old.start s, Nat.zero_le _⟩ ((State.WarmedH.refl s).since 0) rfl
section StepsW
variable {Z : State} {n0 kk : Nat} {code : ByteArray} {ml : Nat} {own nm : String} {ret : Option FieldType} {h : Heap} {p : Program} {l : Launch} {e : Env} {R : Room} {s : State} {m : MethodId} {args : Array Value} {below : List Frame} {meth : Method} {c : Code} {T : State} {locs : List Loc} {cells slots : Nat} {P : State → Outcome → Prop} {a0 : Array Value} {u : Vm} {pc pc' : Nat} {L : Array Slot} {S : List Value} {Q : Option Value → Heap → Prop} {ce sl : Nat}
theorem Sd.doneW (X : Sd Z n0 kk code ml own nm ret h p l e R (s.setVm u) m args below meth c T locs cells slots) (Y : s.Since u kk) {v : Option Value} (hv : ret = none → v = none) (hq : Q v h) (hc : cells ≤ ce) (hs : slots ≤ sl) {g : JFrame} (step : ∀ fs, (∀ (f : JFrame) (acts : List Action), f.method = m → f.locked = none → f.entered = [] → (doReturn e (T.setTop f) acts v).1 = T.setFrames fs) → Steps p.tables e below (T.setTop g) (T.setFrames fs)) : Wp p e below (PoW Z n0 s Q ce sl) (T.setTop g) := by
  obtain ⟨fs, hr, hrun, hended, hE⟩ := X.st.leaveW Y (by rw [X.eh]; exact X.hkk) (v := v) (fun q => hv (X.hret ▸ q)) X.hlk
  have e1 : (T.setFrames fs).heap = h := X.eh
  refine ⟨_, _, step fs hr, hrun, hended, v, locs, rfl, ⟨X.fr, ?_, X.st.same.2.1, ?_⟩, hE.1, hE.2.1, hE.2.2.1, hE.2.2.2.mono hc hs⟩
  · rw [e1]; exact X.old
  · rw [e1]; exact hq
theorem v_retI (X : Sd Z n0 kk code ml own nm (some .int) h p l e R (s.setVm u) m args below meth c T locs cells slots) (Y : s.Since u kk) {z : Int32} (hd : Dc code pc .ireturn 1 pc') (hq : Q (some (.int z)) h) (hc : cells ≤ ce) (hs : slots ≤ sl) : Wp p e below (PoW Z n0 s Q ce sl) (T.setTop (mkF m pc L (.int z :: S))) :=
  X.doneW Y nofun hq hc hs fun fs hr => retOut X.st X.hx X.hret rfl (Or.inl ⟨rfl, Or.inl rfl, z, rfl⟩) (X.hb hd.1) hr
theorem v_ret_boolean (X : Sd Z n0 kk code ml own nm (some .boolean) h p l e R (s.setVm u) m args below meth c T locs cells slots) (Y : s.Since u kk) {z : Int32} (z' : Int32) (hz : nar .boolean z = z') (hd : Dc code pc .ireturn 1 pc') (hq : Q (some (.int z')) h) (hc : cells ≤ ce) (hs : slots ≤ sl) : Wp p e below (PoW Z n0 s Q ce sl) (T.setTop (mkF m pc L (.int z :: S))) := by
  subst hz
  exact X.doneW Y nofun hq hc hs fun fs hr => retN X.st X.hx X.hret (by simp) (X.hb hd.1) hr
theorem v_ret_byte (X : Sd Z n0 kk code ml own nm (some .byte) h p l e R (s.setVm u) m args below meth c T locs cells slots) (Y : s.Since u kk) {z : Int32} (z' : Int32) (hz : nar .byte z = z') (hd : Dc code pc .ireturn 1 pc') (hq : Q (some (.int z')) h) (hc : cells ≤ ce) (hs : slots ≤ sl) : Wp p e below (PoW Z n0 s Q ce sl) (T.setTop (mkF m pc L (.int z :: S))) := by
  subst hz
  exact X.doneW Y nofun hq hc hs fun fs hr => retN X.st X.hx X.hret (by simp) (X.hb hd.1) hr
theorem v_ret_char (X : Sd Z n0 kk code ml own nm (some .char) h p l e R (s.setVm u) m args below meth c T locs cells slots) (Y : s.Since u kk) {z : Int32} (z' : Int32) (hz : nar .char z = z') (hd : Dc code pc .ireturn 1 pc') (hq : Q (some (.int z')) h) (hc : cells ≤ ce) (hs : slots ≤ sl) : Wp p e below (PoW Z n0 s Q ce sl) (T.setTop (mkF m pc L (.int z :: S))) := by
  subst hz
  exact X.doneW Y nofun hq hc hs fun fs hr => retN X.st X.hx X.hret (by simp) (X.hb hd.1) hr
theorem v_ret_short (X : Sd Z n0 kk code ml own nm (some .short) h p l e R (s.setVm u) m args below meth c T locs cells slots) (Y : s.Since u kk) {z : Int32} (z' : Int32) (hz : nar .short z = z') (hd : Dc code pc .ireturn 1 pc') (hq : Q (some (.int z')) h) (hc : cells ≤ ce) (hs : slots ≤ sl) : Wp p e below (PoW Z n0 s Q ce sl) (T.setTop (mkF m pc L (.int z :: S))) := by
  subst hz
  exact X.doneW Y nofun hq hc hs fun fs hr => retN X.st X.hx X.hret (by simp) (X.hb hd.1) hr
theorem v_retJ (X : Sd Z n0 kk code ml own nm (some .long) h p l e R (s.setVm u) m args below meth c T locs cells slots) (Y : s.Since u kk) {z : Int64} (hd : Dc code pc .lreturn 1 pc') (hq : Q (some (.long z)) h) (hc : cells ≤ ce) (hs : slots ≤ sl) : Wp p e below (PoW Z n0 s Q ce sl) (T.setTop (mkF m pc L (.long z :: S))) :=
  X.doneW Y nofun hq hc hs fun fs hr => retOut X.st X.hx X.hret rfl (Or.inr (Or.inl ⟨rfl, rfl, z, rfl⟩)) (X.hb hd.1) hr
theorem v_retR (X : Sd Z n0 kk code ml own nm ret h p l e R (s.setVm u) m args below meth c T locs cells slots) (Y : s.Since u kk) {t : FieldType} {z : Value} (ht : t.isReference = true) (hz : z.isRef = true) (hret : ret = some t) (hd : Dc code pc .areturn 1 pc') (hq : Q (some z) h) (hc : cells ≤ ce) (hs : slots ≤ sl) : Wp p e below (PoW Z n0 s Q ce sl) (T.setTop (mkF m pc L (z :: S))) := by
  subst hret
  exact X.doneW Y nofun hq hc hs fun fs hr => retOut X.st X.hx X.hret (by rcases ref_cases hz with rfl | ⟨z, rfl⟩ <;> cases t <;> first | rfl | cases ht) (Or.inr (Or.inr (Or.inr (Or.inr ⟨rfl, ht, hz⟩)))) (X.hb hd.1) hr
theorem v_retV (X : Sd Z n0 kk code ml own nm (none) h p l e R (s.setVm u) m args below meth c T locs cells slots) (Y : s.Since u kk) (hd : Dc code pc .return_ 1 pc') (hq : Q none h) (hc : cells ≤ ce) (hs : slots ≤ sl) : Wp p e below (PoW Z n0 s Q ce sl) (T.setTop (mkF m pc L [])) :=
  X.doneW Y (fun _ => rfl) hq hc hs fun fs hr => X.st.returnOut X.hx X.hret (X.hb hd.1) hr
theorem v_ldcS (X : Sd Z n0 kk code ml own nm ret h p l e R (s.setVm u) m args below meth c T locs cells slots) (Y : s.Since u kk) {index : Nat} {text : String} (hd : Dc code pc (.ldc index) 2 pc') (w1 : (Cond.stringLink own index text).before a0 Z = true) (wS : ∀ a ∈ Bundle.stringAtoms, a.before a0 Z = true) (n : Nat) (hn : 4 * text.toList.length ≤ n) (hbig : n ≤ 536870912) (hc : cells + 2 ≤ R.cells) (hl : slots + (n + 4) ≤ R.slots) (K : ∀ T' h' u' kk' a, Sd Z n0 kk' code ml own nm ret h' p l e R (s.setVm u') m args below meth c T' locs (cells + 2) (slots + (n + 4)) → s.Since u' kk' → Ext h h' → Wp p e below P (T'.setTop (mkF m pc' L (.ref a :: S)))) : Wp p e below P (T.setTop (mkF m pc L S)) := by
  obtain ⟨hd, rfl⟩ := hd
  obtain ⟨a, T', h', k1, X', e', E, Y', hk, hZ', ho', st⟩ := ldcS X.st X.hx X.hZ X.hown w1 wS X.eh Y X.hkk (g := mkF m pc L S) rfl (X.hb hd) hn hbig hc hl
  exact Wp.of st (K T' h' T'.vm k1 a ⟨X', ⟨X.hx, X.2.1.2.1, X.hml, ho', hZ', X.hret, X.hnm, X.hlk⟩, e', X.fr, X.old.ext E, hk⟩ Y' E)
theorem v_ldcT (X : Sd Z n0 kk code ml own nm ret h p l e R (s.setVm u) m args below meth c T locs cells slots) (Y : s.Since u kk) {index : Nat} {text : String} {Ts : List String} (hd : Dc code pc (.ldc index) 2 pc') (w1 : (Cond.stringLink own index text).before a0 Z = true) (wS : ∀ a ∈ Bundle.stringAtoms, a.before a0 Z = true) (hZs : Z.heap.size = n0) (hs0 : s.heap.size = n0) (hkeep : ∀ (b : Addr) (cl : Cell), Z.heap[b]? = some cl → s.heap[b]? = some cl) (I : IB Z u Ts) (hnot : text ∉ Ts) (hh : Jvm.Lit.constHeld Z own index) (hcw : Jvm.Lit.compactW.before a0 Z = true) (vs : List Value) (z : Int32) (ht : (∀ c ∈ text.toList, c.toNat < 256) ∧ text.toList.map (fun c => Value.int (Jvm.Lit.byteI c.toNat.toUInt16)) = vs) (hz : ¬ z < 0) (hzl : z.toNatClampNeg = vs.length) (n : Nat) (hn : 4 * text.toList.length ≤ n) (hbig : n ≤ 536870912) (hc : cells + 2 ≤ R.cells) (hl : slots + (n + 4) ≤ R.slots) (K : ∀ T' h' u' kk' a b, Sd Z n0 kk' code ml own nm ret h' p l e R (s.setVm u') m args below meth c T' locs (cells + 2) (slots + (n + 4)) → s.Since u' kk' → Ext h h' → Exa Z h' a "java/lang/String" → Fld Z h' a "java/lang/String" "coder" "B" (.int 0) → Fld Z h' a "java/lang/String" "value" "[B" (.ref b) → Ary Z h' b .byte vs → IB Z u' (text :: Ts) → Wp p e below P (T'.setTop (mkF m pc' L (.ref a :: S)))) : Wp p e below P (T.setTop (mkF m pc L S)) := by
  obtain ⟨hd, rfl⟩ := hd
  obtain ⟨a, T', h', k1, b, k, X', e', E, Y', hk, hZ', ho', r8, r9, r10, r11, -, -, r14, st⟩ := ldcSV (s := s) X.st X.hx X.hZ X.hown w1 wS X.eh Y X.hkk (by show Fr s.heap.size locs; rw [hs0]; exact X.fr) hkeep I hnot hh hcw ht hz hzl (g := mkF m pc L S) rfl (X.hb hd) hn hbig hc hl
  exact Wp.of st (K T' h' T'.vm k1 a b ⟨X', ⟨X.hx, X.2.1.2.1, X.hml, ho', hZ', X.hret, X.hnm, X.hlk⟩, e', X.fr, X.old.ext E, hk⟩ Y' E r8 r9 r10 (Ary.ofArv r11 hzl) r14)
theorem v_callS (X : Sd Z n0 kk code ml own nm ret h p l e R (s.setVm u) m args below meth c T locs cells slots) (Y : s.Since u kk) {y : MethodName} {bytes : ByteArray} {maxL : Nat} {ret' : Option FieldType} {rm : Room} {index : Nat} {Q' : Option Value → Heap → Prop} {ps : List FieldType} {rr : Option FieldType} {stk : List Value} (hd : Dc code pc (.invokestatic index) 3 pc') (w1 : (Cond.methodLink own index y).before a0 Z = true) (w2 : (Cond.static y).before a0 Z = true) (w3 : (Cond.initialized y.cls).before a0 Z = true) (w4 : (Cond.code y bytes maxL ret').before a0 Z = true) (hy : y.cls ≠ "java/lang/invoke/MethodHandle" ∧ y.cls ≠ "java/lang/invoke/VarHandle") {argsL : List Value} (D : DoesW l Z n0 y bytes maxL ret' [] rm argsL.toArray h Q') (hpd : parseMethodDescriptor y.desc = some ⟨ps, rr⟩) (hlen : argsL.length = ps.length) (hst : stk = argsL.reverse ++ S) (hsz : L.size = ml) (hf : rm.frames + 1 ≤ R.frames) (hl : (S.map fun v => v.category).sum + (maxL + 11) + rm.locals ≤ R.locals) (hc : cells + rm.cells ≤ R.cells) (hs : slots + rm.slots ≤ R.slots) (K : ∀ T' h' v L' u' kk', Sd Z n0 kk' code ml own nm ret h' p l e R (s.setVm u') m args below meth c T' (locs ++ L') (cells + rm.cells) (slots + rm.slots) → s.Since u' kk' → Q' v h' → Wp p e below P (T'.setTop (mkF m pc' L (v.toList ++ S)))) : Wp p e below P (T.setTop (mkF m pc L stk)) := by
  obtain ⟨hd, rfl⟩ := hd
  obtain ⟨v, vm1, ⟨T', L1, k1, n1⟩, -, X', hS', hgr, ⟨Lc, hQ, l1, y1, z1⟩, st⟩ := callSS X.st X.hx X.hown (mvT X.hZ w1) (mvT X.hZ w2) (mvT X.hZ w3) (mvT X.hZ w4) hy (backOfS (Q := fun v h' L => Fr n0 L ∧ Old Z n0 h' ∧ h.size ≤ h'.size ∧ Q' v h') (W := (S.map fun v => v.category).sum) (D X.old) X.hZ w4 w3 hf hl) (g := mkF m pc L stk) rfl (by rw [X.hml]; exact hsz) (argsL := argsL) (rest := S) (lenOf hpd hlen) hst (by show 2 * 0 + _ ≤ _; omega) (X.hb hd) (fun _ _ => ⟨rfl, X.eh, hc, hs⟩)
  dsimp only [Pt.U, Pt.locs, Pt.cells, Pt.slots] at X' hS' hgr l1 y1 z1 st hQ
  subst l1 y1 z1
  exact Wp.tr st (K T' _ v Lc T'.vm T'.heap.size ⟨X', ⟨X.hx, X.2.1.2.1, X.hml, (hS'.1.alike.findClass _ _).trans X.hown, State.Warmed39.trans X.hZ hS'.1, X.hret, X.hnm, X.hlk⟩, rfl, X.fr.app hQ.1, hQ.2.1, Nat.le_refl _⟩ (Y.trans hS' (Nat.le_trans X.hkk (X.eh ▸ hgr))) hQ.2.2.2)
theorem v_callI (X : Sd Z n0 kk code ml own nm ret h p l e R (s.setVm u) m args below meth c T locs cells slots) (Y : s.Since u kk) {y : MethodName} {bytes : ByteArray} {maxL : Nat} {rm : Room} {index : Nat} {Q' : Option Value → Heap → Prop} {ps : List FieldType} {rr : Option FieldType} {stk : List Value} (hd : Dc code pc (.invokespecial index) 3 pc') (hi : y.name = "<init>") (w1 : (Cond.methodLink own index y).before a0 Z = true) (w2 : (Cond.instanceMethod y).before a0 Z = true) (w3 : (Cond.initialized y.cls).before a0 Z = true) (w4 : (Cond.code y bytes maxL none).before a0 Z = true) (hy : y.cls ≠ "java/lang/invoke/MethodHandle" ∧ y.cls ≠ "java/lang/invoke/VarHandle") {a : Addr} {argsL : List Value} (D : DoesW l Z n0 y bytes maxL none [] rm (.ref a :: argsL).toArray h Q') (hpd : parseMethodDescriptor y.desc = some ⟨ps, rr⟩) (hlen : argsL.length = ps.length) (hst : stk = argsL.reverse ++ .ref a :: S) (hsz : L.size = ml) (hf : rm.frames + 1 ≤ R.frames) (hl : (S.map fun v => v.category).sum + (maxL + 11) + rm.locals ≤ R.locals) (hc : cells + rm.cells ≤ R.cells) (hs : slots + rm.slots ≤ R.slots) (K : ∀ T' h' v L' u' kk', Sd Z n0 kk' code ml own nm ret h' p l e R (s.setVm u') m args below meth c T' (locs ++ L') (cells + rm.cells) (slots + rm.slots) → s.Since u' kk' → Q' v h' → Wp p e below P (T'.setTop (mkF m pc' L (v.toList ++ S)))) : Wp p e below P (T.setTop (mkF m pc L stk)) := by
  obtain ⟨hd, rfl⟩ := hd
  obtain ⟨v, vm1, ⟨T', L1, k1, n1⟩, -, X', hS', hgr, ⟨Lc, hQ, l1, y1, z1⟩, st⟩ := X.st.specialBackS X.hx hi X.hown (mvT X.hZ w1) (mvT X.hZ w2) (mvT X.hZ w4) hy (backOfS (Q := fun v h' L => Fr n0 L ∧ Old Z n0 h' ∧ h.size ≤ h'.size ∧ Q' v h') (W := (S.map fun v => v.category).sum) (D X.old) X.hZ w4 w3 hf hl) (g := mkF m pc L stk) rfl (by rw [X.hml]; exact hsz) (Steps.refl _) (a := a) (argsL := argsL) (rest := S) (lenOf hpd hlen) hst (by show 2 * 0 + _ ≤ _; omega) (X.hb hd) (fun _ _ => ⟨rfl, X.eh, hc, hs⟩)
  dsimp only [Pt.U, Pt.locs, Pt.cells, Pt.slots] at X' hS' hgr l1 y1 z1 st hQ
  subst l1 y1 z1
  exact Wp.tr st (K T' _ v Lc T'.vm T'.heap.size ⟨X', ⟨X.hx, X.2.1.2.1, X.hml, (hS'.1.alike.findClass _ _).trans X.hown, State.Warmed39.trans X.hZ hS'.1, X.hret, X.hnm, X.hlk⟩, rfl, X.fr.app hQ.1, hQ.2.1, Nat.le_refl _⟩ (Y.trans hS' (Nat.le_trans X.hkk (X.eh ▸ hgr))) hQ.2.2.2)
theorem v_callV (X : Sd Z n0 kk code ml own nm ret h p l e R (s.setVm u) m args below meth c T locs cells slots) (Y : s.Since u kk) {y : MethodName} {bytes : ByteArray} {maxL : Nat} {ret' : Option FieldType} {rm : Room} {index : Nat} {Q' : Option Value → Heap → Prop} {ps : List FieldType} {rr : Option FieldType} {stk : List Value} {z : MethodName} {C : String} (hd : Dc code pc (.invokevirtual index) 3 pc') (w1 : (Cond.methodLink own index y).before a0 Z = true) (wd : (Cond.declares y).before a0 Z = true) (hnf : NotFace (s.setVm u) y) (ws : (Cond.selects C y z).before a0 Z = true) (w2 : (Cond.instanceMethod z).before a0 Z = true) (w3 : (Cond.initialized z.cls).before a0 Z = true) (w4 : (Cond.code z bytes maxL ret').before a0 Z = true) (hy : y.cls ≠ "java/lang/invoke/MethodHandle" ∧ y.cls ≠ "java/lang/invoke/VarHandle") {a : Addr} (E : Exa Z h a C) {argsL : List Value} (D : DoesW l Z n0 z bytes maxL ret' [] rm (.ref a :: argsL).toArray h Q') (hpd : parseMethodDescriptor y.desc = some ⟨ps, rr⟩) (hlen : argsL.length = ps.length) (hst : stk = argsL.reverse ++ .ref a :: S) (hsz : L.size = ml) (hf : rm.frames + 1 ≤ R.frames) (hl : (S.map fun v => v.category).sum + (maxL + 11) + rm.locals ≤ R.locals) (hc : cells + rm.cells ≤ R.cells) (hs : slots + rm.slots ≤ R.slots) (K : ∀ T' h' v L' u' kk', Sd Z n0 kk' code ml own nm ret h' p l e R (s.setVm u') m args below meth c T' (locs ++ L') (cells + rm.cells) (slots + rm.slots) → s.Since u' kk' → Q' v h' → Wp p e below P (T'.setTop (mkF m pc' L (v.toList ++ S)))) : Wp p e below P (T.setTop (mkF m pc L stk)) := by
  obtain ⟨hd, rfl⟩ := hd
  obtain ⟨cq, kq, qa, qb, qc⟩ := isOf X.hZ X.eh E
  obtain ⟨v, vm1, ⟨T', L1, k1, n1⟩, -, X', hS', hgr, ⟨Lc, hQ, l1, y1, z1⟩, st⟩ := X.st.virtualBackS X.hx X.hown (mvT X.hZ w1) (mvT X.hZ wd) hnf (mvT X.hZ ws) (mvT X.hZ w2) hy (backOfS (Q := fun v h' L => Fr n0 L ∧ Old Z n0 h' ∧ h.size ≤ h'.size ∧ Q' v h') (W := (S.map fun v => v.category).sum) (D X.old) X.hZ w4 w3 hf hl) qa qc (g := mkF m pc L stk) rfl (by rw [X.hml]; exact hsz) (Steps.refl _) (argsL := argsL) (rest := S) (lenOf hpd hlen) hst (by show 2 * 0 + _ ≤ _; omega) (X.hb hd) (fun _ _ => ⟨rfl, X.eh, hc, hs⟩)
  dsimp only [Pt.U, Pt.locs, Pt.cells, Pt.slots] at X' hS' hgr l1 y1 z1 st hQ
  subst l1 y1 z1
  exact Wp.tr st (K T' _ v Lc T'.vm T'.heap.size ⟨X', ⟨X.hx, X.2.1.2.1, X.hml, (hS'.1.alike.findClass _ _).trans X.hown, State.Warmed39.trans X.hZ hS'.1, X.hret, X.hnm, X.hlk⟩, rfl, X.fr.app hQ.1, hQ.2.1, Nat.le_refl _⟩ (Y.trans hS' (Nat.le_trans X.hkk (X.eh ▸ hgr))) hQ.2.2.2)
end StepsW
end Jvm.RoadKit
namespace Jvm.RoadKit
open Sem ClassFile Op Lib Jvm.Stand Jvm.Free Jvm.LawKit
def PoG (Z : State) (n0 : Nat) (s : State) (Q : Option Value → Heap → Vm → Prop) (ce sl : Nat) : State → Outcome → Prop := fun U o => ∃ v L, o = .returned v ∧ (Fr n0 L ∧ Old Z n0 U.heap ∧ s.heap.size ≤ U.heap.size ∧ Q v U.heap U.vm) ∧ ReturnedEndW s o U L ce sl
def DoesG (l : Launch) (Z : State) (n0 : Nat) (G : Vm → Prop) (y : MethodName) (code : ByteArray) (ml : Nat) (ret : Option FieldType) (ws : List Cond) (rm : Room) (as' : Array Value) (h0 : Heap) (Q : Option Value → Heap → Vm → Prop) : Prop :=
  Old Z n0 h0 → MetFree l y (head1 (Cond.code y code ml ret :: ws) rm) (fun a U => a = as' ∧ Z.Warmed39 U.vm ∧ U.heap = h0 ∧ G U.vm) (fun _ _ _ _ _ => True) (fun _ U o U' => ∃ v L, o = .returned v ∧ (Fr n0 L ∧ Old Z n0 U'.heap ∧ h0.size ≤ U'.heap.size ∧ Q v U'.heap U'.vm) ∧ ReturnedEndW U o U' L rm.cells rm.slots)
theorem DoesG.start {l : Launch} {Z : State} {n0 : Nat} {G : Vm → Prop} {y : MethodName} {code : ByteArray} {ml : Nat} {ret : Option FieldType} {ws : List Cond} {rm : Room} {as' : Array Value} {h0 : Heap} {Q : Option Value → Heap → Vm → Prop} (hp : plainFor y = true)
    (body : ∀ p e s m below meth c s₁, Sd Z n0 0 code ml y.cls y.name ret h0 p l e rm (s.setVm s.vm) m as' below meth c s₁ [] 0 0 → s.Since s.vm 0 → s.heap = h0 → G s.vm → Wp p e below (PoG Z n0 s Q rm.cells rm.slots) (s₁.setTop (entryFrame m as' ml))) : DoesG l Z n0 G y code ml ret ws rm as' h0 Q := by
  intro hold
  refine MetFree.of_bodySF hp hisR ?_
  intro p e s m args below meth c s₁ Bd hml0 hP hK
  obtain ⟨rfl, hZ, hh, hG⟩ := hP
  have hh' := hh
  subst hh
  exact body p e s m below meth c s₁ ⟨Stand.of_body Bd, ⟨Bd.exec, Bd.bytes, hml0, findClass_of_methodNamed Bd.named, hZ, Bd.returns, (name_of_methodNamed Bd.named Bd.method).1, Bd.notSynchronized⟩, by rw [Bd.state]; rfl, Fr.nil n0, hold, Nat.zero_le _⟩ ((State.WarmedH.refl s).since 0) rfl hG
theorem own_backG {p : Program} {l : Launch} {e : Env} {R : Room} {s : State} {args : Array Value} {below : List Frame} {Z : State} {a0 : Array Value} {h : Heap} {G : Vm → Prop} {y : MethodName} {bytes : ByteArray} {maxL : Nat} {ret : Option FieldType} {rm : Room} {len W : Nat} {as' : Array Value} {Q : Option Value → Heap → Vm → List Loc → Prop}
    (hM : MetFree l y (head1 [Cond.code y bytes maxL ret] rm) (fun a U => a = as' ∧ Z.Warmed39 U.vm ∧ U.heap = h ∧ G U.vm) (fun _ _ _ _ _ => True) (fun _ U o U' => ∃ v L, o = .returned v ∧ Q v U'.heap U'.vm L ∧ ReturnedEndW U o U' L rm.cells rm.slots))
    (hG : ∀ vm', s.WarmedH vm' → G vm') (hZ : Z.Warmed39 s.vm) (wc : (Cond.code y bytes maxL ret).before a0 Z = true) (wz : (Cond.initialized y.cls).before a0 Z = true) (hf : rm.frames + 1 ≤ R.frames) (hl : W + (maxL + 11) + rm.locals ≤ R.locals) :
    BackS l R p e below s args y len W (fun A a => a = as' ∧ A.U.heap = h ∧ A.cells + rm.cells ≤ R.cells ∧ A.slots + rm.slots ≤ R.slots)
      (fun A _ v B => ∃ L, Q v B.U.heap B.U.vm L ∧ B.locs = A.locs ++ L ∧ B.cells = A.cells + rm.cells ∧ B.slots = A.slots + rm.slots) :=
  BackS.of_freeW (bytes := bytes) (maxL := maxL) (ret := ret) (E := fun _ _ o t L k n => k = rm.cells ∧ n = rm.slots ∧ ∃ v, o = .returned v ∧ Q v t.heap t.vm L) hM hf hl
    (fun m meth c A a Y hp => have hU : Z.Warmed39 A.U.vm := wtrans hZ Y.warmed
      ⟨by show (Cond.and _ .tt).before a A.U = true; rw [Cond.before_and, mv hU wc]; rfl, mv hU wc, mv hU wz, hp.2.2.1, hp.2.2.2⟩)
    (fun m meth c A a g mk Y hp => ⟨hp.1, wtrans hZ Y.warmed, hp.2.1, hG _ Y.warmed⟩) (fun _ _ _ _ _ _ _ _ _ => trivial)
    (fun _ _ _ _ ⟨v, L, h1, h2, h3⟩ => ⟨L, _, _, h3, rfl, rfl, v, h1, h2⟩)
    (fun m meth c A a g mk v t L k n Y hp _ _ ⟨e1, e2, v', e3, e4⟩ => by cases e3; subst e1 e2; exact ⟨L, e4, rfl, rfl, rfl⟩)
section StepsG
variable {Z : State} {n0 kk : Nat} {code : ByteArray} {ml : Nat} {own nm : String} {ret : Option FieldType} {h : Heap} {p : Program} {l : Launch} {e : Env} {R : Room} {s : State} {m : MethodId} {args : Array Value} {below : List Frame} {meth : Method} {c : Code} {T : State} {locs : List Loc} {cells slots : Nat} {P : State → Outcome → Prop} {a0 : Array Value} {u : Vm} {pc pc' : Nat} {L : Array Slot} {S : List Value} {Q : Option Value → Heap → Vm → Prop} {ce sl : Nat}
theorem Sd.doneG (X : Sd Z n0 kk code ml own nm ret h p l e R (s.setVm u) m args below meth c T locs cells slots) (Y : s.Since u kk) {v : Option Value} (hv : ret = none → v = none) (hq : ∀ vm', (s.setVm u).WarmedH vm' → Q v h vm') (hc : cells ≤ ce) (hs : slots ≤ sl) {g : JFrame} (step : ∀ fs, (∀ (f : JFrame) (acts : List Action), f.method = m → f.locked = none → f.entered = [] → (doReturn e (T.setTop f) acts v).1 = T.setFrames fs) → Steps p.tables e below (T.setTop g) (T.setFrames fs)) : Wp p e below (PoG Z n0 s Q ce sl) (T.setTop g) := by
  obtain ⟨fs, hr, hrun, hended, hE⟩ := X.st.leaveW Y (by rw [X.eh]; exact X.hkk) (v := v) (fun q => hv (X.hret ▸ q)) X.hlk
  have e1 : (T.setFrames fs).heap = h := X.eh
  refine ⟨_, _, step fs hr, hrun, hended, v, locs, rfl, ⟨X.fr, ?_, X.st.same.2.1, ?_⟩, hE.1, hE.2.1, hE.2.2.1, hE.2.2.2.mono hc hs⟩
  · rw [e1]; exact X.old
  · rw [e1]; exact hq _ X.st.warmed
theorem g_retR (X : Sd Z n0 kk code ml own nm ret h p l e R (s.setVm u) m args below meth c T locs cells slots) (Y : s.Since u kk) {t : FieldType} {z : Value} (ht : t.isReference = true) (hz : z.isRef = true) (hret : ret = some t) (hd : Dc code pc .areturn 1 pc') (hq : ∀ vm', (s.setVm u).WarmedH vm' → Q (some z) h vm') (hc : cells ≤ ce) (hs : slots ≤ sl) : Wp p e below (PoG Z n0 s Q ce sl) (T.setTop (mkF m pc L (z :: S))) := by
  subst hret
  exact X.doneG Y nofun hq hc hs fun fs hr => retOut X.st X.hx X.hret (by rcases ref_cases hz with rfl | ⟨z, rfl⟩ <;> cases t <;> first | rfl | cases ht) (Or.inr (Or.inr (Or.inr (Or.inr ⟨rfl, ht, hz⟩)))) (X.hb hd.1) hr
theorem g_retV (X : Sd Z n0 kk code ml own nm none h p l e R (s.setVm u) m args below meth c T locs cells slots) (Y : s.Since u kk) (hd : Dc code pc .return_ 1 pc') (hq : ∀ vm', (s.setVm u).WarmedH vm' → Q none h vm') (hc : cells ≤ ce) (hs : slots ≤ sl) : Wp p e below (PoG Z n0 s Q ce sl) (T.setTop (mkF m pc L [])) :=
  X.doneG Y (fun _ => rfl) hq hc hs fun fs hr => X.st.returnOut X.hx X.hret (X.hb hd.1) hr
theorem v_ldcL (X : Sd Z n0 kk code ml own nm ret h p l e R (s.setVm u) m args below meth c T locs cells slots) (Y : s.Since u kk) {index : Nat} {text : String} {Ts : List String} (hd : Dc code pc (.ldc index) 2 pc') (w1 : (Cond.stringLink own index text).before a0 Z = true) (wS : ∀ a ∈ Bundle.stringAtoms, a.before a0 Z = true) (hlo : Fr s.heap.size locs) (hkeep : ∀ (b : Addr) (cl : Cell), Z.heap[b]? = some cl → s.heap[b]? = some cl) (I : IB Z u Ts) (hnot : text ∉ Ts) (hh : Jvm.Lit.constHeld Z own index) (hcw : Jvm.Lit.compactW.before a0 Z = true) (vs : List Value) (z : Int32) (ht : (∀ c ∈ text.toList, c.toNat < 256) ∧ text.toList.map (fun c => Value.int (Jvm.Lit.byteI c.toNat.toUInt16)) = vs) (hz : ¬ z < 0) (hzl : z.toNatClampNeg = vs.length) (n : Nat) (hn : 4 * text.toList.length ≤ n) (hbig : n ≤ 536870912) (hc : cells + 2 ≤ R.cells) (hl : slots + (n + 4) ≤ R.slots) (K : ∀ T' h' u' kk' a b, Sd Z n0 kk' code ml own nm ret h' p l e R (s.setVm u') m args below meth c T' locs (cells + 2) (slots + (n + 4)) → s.Since u' kk' → Ext h h' → Exa Z h' a "java/lang/String" → Fld Z h' a "java/lang/String" "coder" "B" (.int 0) → Fld Z h' a "java/lang/String" "value" "[B" (.ref b) → Ary Z h' b .byte vs → IB Z u' (text :: Ts) → Lit (s.setVm u') own index a → Wp p e below P (T'.setTop (mkF m pc' L (.ref a :: S)))) : Wp p e below P (T.setTop (mkF m pc L S)) := by
  obtain ⟨hd, rfl⟩ := hd
  obtain ⟨a, T', h', k1, b, k, X', e', E, Y', hk, hZ', ho', r8, r9, r10, r11, -, -, r14, r15, st⟩ := ldcSVL (s := s) X.st X.hx X.hZ X.hown w1 wS X.eh Y X.hkk hlo hkeep I hnot hh hcw ht hz hzl (g := mkF m pc L S) rfl (X.hb hd) hn hbig hc hl
  exact Wp.of st (K T' h' T'.vm k1 a b ⟨X', ⟨X.hx, X.2.1.2.1, X.hml, ho', hZ', X.hret, X.hnm, X.hlk⟩, e', X.fr, X.old.ext E, hk⟩ Y' E r8 r9 r10 (Ary.ofArv r11 hzl) r14 r15)
theorem v_ldcA (X : Sd Z n0 kk code ml own nm ret h p l e R (s.setVm u) m args below meth c T locs cells slots) {index : Nat} {text : String} {a : Addr} (hd : Dc code pc (.ldc index) 2 pc') (w1 : (Cond.stringLink own index text).before a0 Z = true) (hL : Lit (s.setVm u) own index a) (K : Wp p e below P (T.setTop (mkF m pc' L (.ref a :: S)))) : Wp p e below P (T.setTop (mkF m pc L S)) := by
  obtain ⟨hd, rfl⟩ := hd
  exact Wp.of (fun _ k => ldcAgain (s := s) X.st X.hx X.hZ X.hown w1 hL (g := mkF m pc L S) rfl (X.hb hd) _ k) K
theorem g_callS (X : Sd Z n0 kk code ml own nm ret h p l e R (s.setVm u) m args below meth c T locs cells slots) (Y : s.Since u kk) {G : Vm → Prop} {y : MethodName} {bytes : ByteArray} {maxL : Nat} {ret' : Option FieldType} {rm : Room} {index : Nat} {Q' : Option Value → Heap → Vm → Prop} {ps : List FieldType} {rr : Option FieldType} {stk : List Value} (hG : ∀ vm', (s.setVm u).WarmedH vm' → G vm') (hd : Dc code pc (.invokestatic index) 3 pc') (w1 : (Cond.methodLink own index y).before a0 Z = true) (w2 : (Cond.static y).before a0 Z = true) (w3 : (Cond.initialized y.cls).before a0 Z = true) (w4 : (Cond.code y bytes maxL ret').before a0 Z = true) (hy : y.cls ≠ "java/lang/invoke/MethodHandle" ∧ y.cls ≠ "java/lang/invoke/VarHandle") {argsL : List Value} (D : DoesG l Z n0 G y bytes maxL ret' [] rm argsL.toArray h Q') (hpd : parseMethodDescriptor y.desc = some ⟨ps, rr⟩) (hlen : argsL.length = ps.length) (hst : stk = argsL.reverse ++ S) (hsz : L.size = ml) (hf : rm.frames + 1 ≤ R.frames) (hl : (S.map fun v => v.category).sum + (maxL + 11) + rm.locals ≤ R.locals) (hc : cells + rm.cells ≤ R.cells) (hs : slots + rm.slots ≤ R.slots) (K : ∀ T' h' v L' u' kk', Sd Z n0 kk' code ml own nm ret h' p l e R (s.setVm u') m args below meth c T' (locs ++ L') (cells + rm.cells) (slots + rm.slots) → s.Since u' kk' → Q' v h' u' → Wp p e below P (T'.setTop (mkF m pc' L (v.toList ++ S)))) : Wp p e below P (T.setTop (mkF m pc L stk)) := by
  obtain ⟨hd, rfl⟩ := hd
  obtain ⟨v, vm1, ⟨T', L1, k1, n1⟩, -, X', hS', hgr, ⟨Lc, hQ, l1, y1, z1⟩, st⟩ := callSS X.st X.hx X.hown (mvT X.hZ w1) (mvT X.hZ w2) (mvT X.hZ w3) (mvT X.hZ w4) hy (own_backG (Q := fun v h' vm' L => Fr n0 L ∧ Old Z n0 h' ∧ h.size ≤ h'.size ∧ Q' v h' vm') (W := (S.map fun v => v.category).sum) (D X.old) hG X.hZ w4 w3 hf hl) (g := mkF m pc L stk) rfl (by rw [X.hml]; exact hsz) (argsL := argsL) (rest := S) (lenOf hpd hlen) hst (by show 2 * 0 + _ ≤ _; omega) (X.hb hd) (fun _ _ => ⟨rfl, X.eh, hc, hs⟩)
  dsimp only [Pt.U, Pt.locs, Pt.cells, Pt.slots] at X' hS' hgr l1 y1 z1 st hQ
  subst l1 y1 z1
  exact Wp.tr st (K T' _ v Lc T'.vm T'.heap.size ⟨X', ⟨X.hx, X.2.1.2.1, X.hml, (hS'.1.alike.findClass _ _).trans X.hown, State.Warmed39.trans X.hZ hS'.1, X.hret, X.hnm, X.hlk⟩, rfl, X.fr.app hQ.1, hQ.2.1, Nat.le_refl _⟩ (Y.trans hS' (Nat.le_trans X.hkk (X.eh ▸ hgr))) hQ.2.2.2)
theorem g_callI (X : Sd Z n0 kk code ml own nm ret h p l e R (s.setVm u) m args below meth c T locs cells slots) (Y : s.Since u kk) {G : Vm → Prop} {y : MethodName} {bytes : ByteArray} {maxL : Nat} {rm : Room} {index : Nat} {Q' : Option Value → Heap → Vm → Prop} {ps : List FieldType} {rr : Option FieldType} {stk : List Value} (hG : ∀ vm', (s.setVm u).WarmedH vm' → G vm') (hd : Dc code pc (.invokespecial index) 3 pc') (hi : y.name = "<init>") (w1 : (Cond.methodLink own index y).before a0 Z = true) (w2 : (Cond.instanceMethod y).before a0 Z = true) (w3 : (Cond.initialized y.cls).before a0 Z = true) (w4 : (Cond.code y bytes maxL none).before a0 Z = true) (hy : y.cls ≠ "java/lang/invoke/MethodHandle" ∧ y.cls ≠ "java/lang/invoke/VarHandle") {a : Addr} {argsL : List Value} (D : DoesG l Z n0 G y bytes maxL none [] rm (.ref a :: argsL).toArray h Q') (hpd : parseMethodDescriptor y.desc = some ⟨ps, rr⟩) (hlen : argsL.length = ps.length) (hst : stk = argsL.reverse ++ .ref a :: S) (hsz : L.size = ml) (hf : rm.frames + 1 ≤ R.frames) (hl : (S.map fun v => v.category).sum + (maxL + 11) + rm.locals ≤ R.locals) (hc : cells + rm.cells ≤ R.cells) (hs : slots + rm.slots ≤ R.slots) (K : ∀ T' h' v L' u' kk', Sd Z n0 kk' code ml own nm ret h' p l e R (s.setVm u') m args below meth c T' (locs ++ L') (cells + rm.cells) (slots + rm.slots) → s.Since u' kk' → Q' v h' u' → Wp p e below P (T'.setTop (mkF m pc' L (v.toList ++ S)))) : Wp p e below P (T.setTop (mkF m pc L stk)) := by
  obtain ⟨hd, rfl⟩ := hd
  obtain ⟨v, vm1, ⟨T', L1, k1, n1⟩, -, X', hS', hgr, ⟨Lc, hQ, l1, y1, z1⟩, st⟩ := X.st.specialBackS X.hx hi X.hown (mvT X.hZ w1) (mvT X.hZ w2) (mvT X.hZ w4) hy (own_backG (Q := fun v h' vm' L => Fr n0 L ∧ Old Z n0 h' ∧ h.size ≤ h'.size ∧ Q' v h' vm') (W := (S.map fun v => v.category).sum) (D X.old) hG X.hZ w4 w3 hf hl) (g := mkF m pc L stk) rfl (by rw [X.hml]; exact hsz) (Steps.refl _) (a := a) (argsL := argsL) (rest := S) (lenOf hpd hlen) hst (by show 2 * 0 + _ ≤ _; omega) (X.hb hd) (fun _ _ => ⟨rfl, X.eh, hc, hs⟩)
  dsimp only [Pt.U, Pt.locs, Pt.cells, Pt.slots] at X' hS' hgr l1 y1 z1 st hQ
  subst l1 y1 z1
  exact Wp.tr st (K T' _ v Lc T'.vm T'.heap.size ⟨X', ⟨X.hx, X.2.1.2.1, X.hml, (hS'.1.alike.findClass _ _).trans X.hown, State.Warmed39.trans X.hZ hS'.1, X.hret, X.hnm, X.hlk⟩, rfl, X.fr.app hQ.1, hQ.2.1, Nat.le_refl _⟩ (Y.trans hS' (Nat.le_trans X.hkk (X.eh ▸ hgr))) hQ.2.2.2)
end StepsG
/-- the constant \"\" of java.lang.String: nobody has loaded a text since the start, or it is loaded and known -/
def Em (Z : State) (h : Heap) (u : Vm) : Prop := IB Z u [] ∨ ∃ a b, Lit (Z.setVm u) "java/lang/String" 7 a ∧ Exa Z h a "java/lang/String" ∧ Fld Z h a "java/lang/String" "coder" "B" (.int (0 : Int32)) ∧ Fld Z h a "java/lang/String" "value" "[B" (.ref b) ∧ Ary Z h b .byte []
theorem Em.warm {Z s : State} {h : Heap} {u vm' : Vm} (M : Em Z h u) (hW : (s.setVm u).WarmedH vm') : Em Z h vm' := by
  rcases M with ⟨more, e, hm⟩ | ⟨a, b, L, r⟩
  · exact Or.inl ⟨more, hW.interned_eq.trans e, hm⟩
  · exact Or.inr ⟨a, b, Lit.stays (s := s) (vm0 := u) (vm1 := vm') L hW.wide, r⟩
theorem Em.keep {Z : State} {h h' : Heap} {u : Vm} (M : Em Z h u) (K : Keep h h' []) : Em Z h' u := by
  rcases M with I | ⟨a, b, L, r1, r2, r3, r4⟩
  · exact Or.inl I
  · exact Or.inr ⟨a, b, L, r1.keep K, r2.keep K List.not_mem_nil, r3.keep K List.not_mem_nil, r4.keep K List.not_mem_nil⟩
theorem Em.ext {Z : State} {h h' : Heap} {u : Vm} (M : Em Z h u) (E : Ext h h') : Em Z h' u := by
  rcases M with I | ⟨a, b, L, r1, r2, r3, r4⟩
  · exact Or.inl I
  · exact Or.inr ⟨a, b, L, r1.ext E, r2.ext E, r3.ext E, r4.ext E⟩
/-- a String whose chars are cs: Latin-1, or UTF-16 in the little order -/
def Txt (Z : State) (h : Heap) (a t : Addr) (cs : List Int32) : Prop := Exa Z h a "java/lang/String" ∧ Fld Z h a "java/lang/String" "value" "[B" (.ref t) ∧ ((Fld Z h a "java/lang/String" "coder" "B" (.int (0 : Int32)) ∧ Ary Z h t .byte (cs.map fun c => .int (c.toInt8.toInt32)) ∧ ∀ c ∈ cs, ¬ (255 : Int32) < c) ∨ (Fld Z h a "java/lang/String" "coder" "B" (.int (1 : Int32)) ∧ Ary Z h t .byte (cs.flatMap fun c => [.int ((c >>> ((0 : Int32) &&& 31)).toInt8.toInt32), .int ((c >>> ((8 : Int32) &&& 31)).toInt8.toInt32)])))
theorem Txt.ext {Z : State} {h h' : Heap} {a t : Addr} {cs : List Int32} (M : Txt Z h a t cs) (E : Ext h h') : Txt Z h' a t cs := ⟨M.1.ext E, M.2.1.ext E, M.2.2.imp (fun q => ⟨q.1.ext E, q.2.1.ext E, q.2.2⟩) fun q => ⟨q.1.ext E, q.2.ext E⟩⟩
theorem Txt.keep {Z : State} {h h' : Heap} {a t : Addr} {cs : List Int32} {ws : List Addr} (M : Txt Z h a t cs) (K : Keep h h' ws) (q1 : a ∉ ws) (q2 : t ∉ ws) : Txt Z h' a t cs := ⟨M.1.keep K, M.2.1.keep K q1, M.2.2.imp (fun q => ⟨q.1.keep K q1, q.2.1.keep K q2, q.2.2⟩) fun q => ⟨q.1.keep K q1, q.2.keep K q2⟩⟩
theorem own_fne {Z : State} {h : Heap} {a b : Addr} {C n d : String} {v w : Value} (F : Fld Z h a C n d v) (G : Fld Z h b C n d w) (q : v ≠ w) : a ≠ b := fun r => by
  subst r
  obtain ⟨c1, _, _, _, f1, h1, h2, -, -, -, -, h3⟩ := F
  obtain ⟨c2, _, _, _, f2, g1, g2, -, -, -, -, g3⟩ := G
  cases h1.symm.trans g1
  cases h2.symm.trans g2
  cases h3.symm.trans g3
  exact q rfl
theorem own_ane {Z : State} {h : Heap} {a b : Addr} {C : String} {a0 : Array Value} {k : Nat} {ty : FieldType} {vs : List Value} (F : Exa Z h a C) (wi : (Cond.instantiable C k).before a0 Z = true) (A : Ary Z h b ty vs) : a ≠ b := by
  obtain ⟨c, A, -⟩ := A
  exact ne_arr F wi A
theorem own_chr {c : Int32} (h : nar .char c = c) : 0 ≤ c.toInt ∧ c.toInt < 65536 := by
  have q := c_i2c c
  rw [show c.toUInt32.toUInt16.toUInt32.toInt32 = c from h] at q
  exact q.2
theorem own_i2c {x c : Int32} (h : x.toInt = c.toInt) (hc : nar .char c = c) : x.toUInt32.toUInt16.toUInt32.toInt32 = c := by
  have e : x = c := Int32.toInt_inj.mp h
  rw [e]; exact hc
theorem own_b8 (x : Int32) : (x.toInt8.toInt32 &&& (255 : Int32)).toInt = x.toInt % 256 := by
  rw [Jvm.Kit.i32_mask _ 255 (k := 8) (by decide) (by decide), Int8.toInt_toInt32, Int32.toInt_toInt8]
  exact Int.bmod_emod
theorem own_lat {c : Int32} (hc : nar .char c = c) (hl : ¬ (255 : Int32) < c) : (c.toInt8.toInt32 &&& (255 : Int32)).toUInt32.toUInt16.toUInt32.toInt32 = c := by
  have r := own_chr hc
  rw [Int32.lt_iff_toInt_lt, show (255 : Int32).toInt = 255 from rfl] at hl
  exact own_i2c (by rw [own_b8]; omega) hc
theorem own_utf {c : Int32} (hc : nar .char c = c) : (((((c >>> ((0 : Int32) &&& 31)).toInt8.toInt32) &&& (255 : Int32)) <<< ((0 : Int32) &&& 31)) ||| ((((c >>> ((8 : Int32) &&& 31)).toInt8.toInt32) &&& (255 : Int32)) <<< ((8 : Int32) &&& 31))).toUInt32.toUInt16.toUInt32.toInt32 = c := by
  have r := own_chr hc
  have e0 : c >>> ((0 : Int32) &&& 31) = c := Int32.toInt_inj.mp (by have := c_ishr c 0 0 (by decide); rw [this]; simp)
  have e8 : (c >>> ((8 : Int32) &&& 31)).toInt = c.toInt / 256 := c_ishr c 8 8 (by decide)
  rw [e0]
  have b0 := own_b8 c
  have b1 := own_b8 (c >>> ((8 : Int32) &&& 31))
  generalize (c.toInt8.toInt32) &&& (255 : Int32) = x at *
  generalize ((c >>> ((8 : Int32) &&& 31)).toInt8.toInt32) &&& (255 : Int32) = y at *
  have s0 : (x <<< ((0 : Int32) &&& 31)).toInt = x.toInt := by have := c_ishl x 0 0 (by decide); have q1 := Int32.toInt_lt (x <<< ((0 : Int32) &&& 31)); have q2 := Int32.le_toInt (x <<< ((0 : Int32) &&& 31)); omega
  have s8 : (y <<< ((8 : Int32) &&& 31)).toInt = y.toInt * 256 := by have := c_ishl y 8 8 (by decide); have q1 := Int32.toInt_lt (y <<< ((8 : Int32) &&& 31)); have q2 := Int32.le_toInt (y <<< ((8 : Int32) &&& 31)); omega
  generalize x <<< ((0 : Int32) &&& 31) = x' at *
  generalize y <<< ((8 : Int32) &&& 31) = y' at *
  have o := c_or' x' y' 8 (by decide) 256 (by decide) (by omega) (by omega) (by omega)
  have q1 := Int32.toInt_lt (x' ||| y'); have q2 := Int32.le_toInt (x' ||| y')
  exact own_i2c (by omega) hc
end Jvm.RoadKit
namespace Jvm.RoadKit
theorem own_eqI {args : Array Value} {first s : State} {o : Option Outcome} {idx : List Nat} {a b : Term} {x y : Int32} (ha : a.eval args first o idx s = some (.int x)) (hb : b.eval args first o idx s = some (.int y)) : (Cond.eq a b).value args first o s idx = some (decide (x = y)) := by simp [Cond.value, ha, hb]
end Jvm.RoadKit
namespace Jvm.Pilot.@@N@@
open Jvm Jvm.ClassFile Sem Op Lib Jvm.Free Jvm.Stand Jvm.LawKit Jvm.RoadKit Bundle Jvm.Pilot.@@N@@.Jvm.D
def own_S (Z : State) (zc : Int32) (fm : Value) : Prop := Sta Z Z.heap "java/lang/String" "COMPACT_STRINGS" "Z" (.int zc) ∧ (¬ zc = 0) ∧ Sta Z Z.heap "jdk/internal/util/Preconditions" "SIOOBE_FORMATTER" "Ljava/util/function/BiFunction;" fm ∧ fm.isRef = true
theorem own_nar_c (x : Int32) : nar .char (x.toUInt32.toUInt16.toUInt32.toInt32) = x.toUInt32.toUInt16.toUInt32.toInt32 := by
  show ((x.toUInt32.toUInt16.toUInt32.toInt32).toUInt32.toUInt16.toUInt32.toInt32) = _
  simp only [UInt32.toUInt32_toInt32, UInt16.toUInt16_toUInt32]
theorem own_nar_b (x : Int32) : nar .byte (x.toInt8.toInt32) = x.toInt8.toInt32 := by
  show (x.toInt8.toInt32).toInt8.toInt32 = _
  simp
def own_minI (x y : Int32) : Int32 := if y < x then y else x
def own_icmp (x y : Int32) : Int32 := if x < y then -1 else if x = y then 0 else 1
def own_sign (r : Int32) : Int32 := if 0 < r then 1 else if r < 0 then -1 else 0
def own_sur (c : Int32) : Int32 := if c < 55296 then 0 else if c < 57344 then 1 else 0
def own_cpo (c : Int32) : Int32 := if own_sur c = 0 then c else c + 65536
def own_rank (c : Int32) : Int32 := if c < 55296 then c else if c < 57344 then c + 8192 else c - 2048
def own_rk (a b : Int32) : Int32 := if own_rank a < own_rank b then -1 else 1
def own_cu : List Int32 → List Int32 → Int32 → Int32 → Int32
  | a :: as, b :: bs, x, y => if a = b then own_cu as bs x y else own_icmp (own_cpo a) (own_cpo b)
  | [], _, x, y => own_icmp x y
  | _ :: _, [], x, y => own_icmp x y
def own_ref (la a0 a1 a2 lb b0 b1 b2 : Int32) : Int32 :=
  if ¬ own_minI la lb < 1 ∧ ¬ a0 = b0 then own_rk a0 b0 else if ¬ own_minI la lb < 2 ∧ ¬ a1 = b1 then own_rk a1 b1 else if ¬ own_minI la lb < 3 ∧ ¬ a2 = b2 then own_rk a2 b2 else if la < lb then -1 else if lb < la then 1 else 0
theorem own_and3 (k : Int32) : k &&& (3 : Int32) = 0 ∨ k &&& (3 : Int32) = 1 ∨ k &&& (3 : Int32) = 2 ∨ k &&& (3 : Int32) = 3 := by
  have h := Jvm.Kit.i32_mask k 3 (k := 2) (by decide) (by decide)
  simp only [← Int32.toInt_inj]
  have e0 : (0 : Int32).toInt = 0 := rfl
  have e1 : (1 : Int32).toInt = 1 := rfl
  have e2 : (2 : Int32).toInt = 2 := rfl
  have e3 : (3 : Int32).toInt = 3 := rfl
  omega
theorem own_cpoI {c : Int32} (h : nar .char c = c) : (own_cpo c).toInt = if c.toInt < 55296 then c.toInt else if c.toInt < 57344 then c.toInt + 65536 else c.toInt := by
  have r := own_chr h
  have e1 : (c < 55296) ↔ c.toInt < 55296 := Int32.lt_iff_toInt_lt
  have e2 : (c < 57344) ↔ c.toInt < 57344 := Int32.lt_iff_toInt_lt
  have e3 : (c + 65536).toInt = c.toInt + 65536 := Jvm.Kit.i32_add (q := 65536) (by show _ ≤ c.toInt + 65536; omega) (by show c.toInt + 65536 < _; omega)
  unfold own_cpo own_sur
  by_cases q : c.toInt < 55296
  · simp [e1, q]
  · by_cases q2 : c.toInt < 57344
    · simp [e1, e2, q, q2, e3]
    · simp [e1, e2, q, q2]
theorem own_rankI {c : Int32} (h : nar .char c = c) : (own_rank c).toInt = if c.toInt < 55296 then c.toInt else if c.toInt < 57344 then c.toInt + 8192 else c.toInt - 2048 := by
  have r := own_chr h
  have e1 : (c < 55296) ↔ c.toInt < 55296 := Int32.lt_iff_toInt_lt
  have e2 : (c < 57344) ↔ c.toInt < 57344 := Int32.lt_iff_toInt_lt
  have e3 : (c + 8192).toInt = c.toInt + 8192 := Jvm.Kit.i32_add (q := 8192) (by show _ ≤ c.toInt + 8192; omega) (by show c.toInt + 8192 < _; omega)
  have e4 : (c - 2048).toInt = c.toInt - 2048 := Jvm.Kit.i32_sub (q := 2048) (by show _ ≤ c.toInt - 2048; omega) (by show c.toInt - 2048 < _; omega)
  unfold own_rank
  by_cases q : c.toInt < 55296
  · simp [e1, q]
  · by_cases q2 : c.toInt < 57344
    · simp [e1, e2, q, q2, e3]
    · simp [e1, e2, q, q2, e4]
theorem own_ordI {a b : Int} (h1 : 0 ≤ a) (h2 : a < 65536) (h3 : 0 ≤ b) (h4 : b < 65536) (n : a ≠ b) : ((if a < 55296 then a else if a < 57344 then a + 65536 else a) < (if b < 55296 then b else if b < 57344 then b + 65536 else b) ↔ (if a < 55296 then a else if a < 57344 then a + 8192 else a - 2048) < (if b < 55296 then b else if b < 57344 then b + 8192 else b - 2048)) ∧ (if a < 55296 then a else if a < 57344 then a + 65536 else a) ≠ (if b < 55296 then b else if b < 57344 then b + 65536 else b) := by
  by_cases p1 : a < 55296 <;> by_cases p2 : a < 57344 <;> by_cases p3 : b < 55296 <;> by_cases p4 : b < 57344 <;> simp only [p1, p2, p3, p4, if_true, if_false, true_and] <;> omega
theorem own_ordr {a b : Int32} (ha : nar .char a = a) (hb : nar .char b = b) (hn : ¬ a = b) : own_sign (own_icmp (own_cpo a) (own_cpo b)) = own_rk a b := by
  have ra := own_chr ha; have rb := own_chr hb
  have n' : a.toInt ≠ b.toInt := fun q => hn (Int32.toInt_inj.mp q)
  have ca := own_cpoI ha; have cb := own_cpoI hb; have ka := own_rankI ha; have kb := own_rankI hb
  have e1 : own_cpo a < own_cpo b ↔ (own_cpo a).toInt < (own_cpo b).toInt := Int32.lt_iff_toInt_lt
  have e2 : own_rank a < own_rank b ↔ (own_rank a).toInt < (own_rank b).toInt := Int32.lt_iff_toInt_lt
  have e3 : own_cpo a = own_cpo b ↔ (own_cpo a).toInt = (own_cpo b).toInt := Int32.toInt_inj.symm
  have key := own_ordI ra.1 ra.2 rb.1 rb.2 n'
  rw [← ca, ← cb, ← ka, ← kb] at key
  have q3 : ¬ own_cpo a = own_cpo b := fun q => key.2 (e3.mp q)
  unfold own_icmp own_rk
  by_cases q : own_cpo a < own_cpo b
  · have q2 : own_rank a < own_rank b := e2.mpr (key.1.mp (e1.mp q))
    rw [if_pos q, if_pos q2]; decide
  · have q2 : ¬ own_rank a < own_rank b := fun z => q (e1.mpr (key.1.mpr (e2.mp z)))
    rw [if_neg q, if_neg q3, if_neg q2]; decide
theorem own_fin_0_0 {a0 a1 a2 b0 b1 b2 : Int32} (ha0 : nar .char a0 = a0) (ha1 : nar .char a1 = a1) (ha2 : nar .char a2 = a2) (hb0 : nar .char b0 = b0) (hb1 : nar .char b1 = b1) (hb2 : nar .char b2 = b2) : own_sign (own_cu [] [] (0 : Int32) (0 : Int32)) = own_ref (0 : Int32) a0 a1 a2 (0 : Int32) b0 b1 b2 := by
  have hm : own_minI (0 : Int32) (0 : Int32) = (0 : Int32) := by decide
  unfold own_ref
  rw [hm]
  simp only [own_cu, if_true, if_false, not_true_eq_false, and_false]
  rw [if_neg (fun z => z.1 (by decide))]
  rw [if_neg (fun z => z.1 (by decide))]
  rw [if_neg (fun z => z.1 (by decide))]
  decide
theorem own_fin_0_1 {a0 a1 a2 b0 b1 b2 : Int32} (ha0 : nar .char a0 = a0) (ha1 : nar .char a1 = a1) (ha2 : nar .char a2 = a2) (hb0 : nar .char b0 = b0) (hb1 : nar .char b1 = b1) (hb2 : nar .char b2 = b2) : own_sign (own_cu [] [b0] (0 : Int32) (1 : Int32)) = own_ref (0 : Int32) a0 a1 a2 (1 : Int32) b0 b1 b2 := by
  have hm : own_minI (0 : Int32) (1 : Int32) = (0 : Int32) := by decide
  unfold own_ref
  rw [hm]
  simp only [own_cu, if_true, if_false, not_true_eq_false, and_false]
  rw [if_neg (fun z => z.1 (by decide))]
  rw [if_neg (fun z => z.1 (by decide))]
  rw [if_neg (fun z => z.1 (by decide))]
  decide
theorem own_fin_0_2 {a0 a1 a2 b0 b1 b2 : Int32} (ha0 : nar .char a0 = a0) (ha1 : nar .char a1 = a1) (ha2 : nar .char a2 = a2) (hb0 : nar .char b0 = b0) (hb1 : nar .char b1 = b1) (hb2 : nar .char b2 = b2) : own_sign (own_cu [] [b0, b1] (0 : Int32) (2 : Int32)) = own_ref (0 : Int32) a0 a1 a2 (2 : Int32) b0 b1 b2 := by
  have hm : own_minI (0 : Int32) (2 : Int32) = (0 : Int32) := by decide
  unfold own_ref
  rw [hm]
  simp only [own_cu, if_true, if_false, not_true_eq_false, and_false]
  rw [if_neg (fun z => z.1 (by decide))]
  rw [if_neg (fun z => z.1 (by decide))]
  rw [if_neg (fun z => z.1 (by decide))]
  decide
theorem own_fin_0_3 {a0 a1 a2 b0 b1 b2 : Int32} (ha0 : nar .char a0 = a0) (ha1 : nar .char a1 = a1) (ha2 : nar .char a2 = a2) (hb0 : nar .char b0 = b0) (hb1 : nar .char b1 = b1) (hb2 : nar .char b2 = b2) : own_sign (own_cu [] [b0, b1, b2] (0 : Int32) (3 : Int32)) = own_ref (0 : Int32) a0 a1 a2 (3 : Int32) b0 b1 b2 := by
  have hm : own_minI (0 : Int32) (3 : Int32) = (0 : Int32) := by decide
  unfold own_ref
  rw [hm]
  simp only [own_cu, if_true, if_false, not_true_eq_false, and_false]
  rw [if_neg (fun z => z.1 (by decide))]
  rw [if_neg (fun z => z.1 (by decide))]
  rw [if_neg (fun z => z.1 (by decide))]
  decide
theorem own_fin_1_0 {a0 a1 a2 b0 b1 b2 : Int32} (ha0 : nar .char a0 = a0) (ha1 : nar .char a1 = a1) (ha2 : nar .char a2 = a2) (hb0 : nar .char b0 = b0) (hb1 : nar .char b1 = b1) (hb2 : nar .char b2 = b2) : own_sign (own_cu [a0] [] (1 : Int32) (0 : Int32)) = own_ref (1 : Int32) a0 a1 a2 (0 : Int32) b0 b1 b2 := by
  have hm : own_minI (1 : Int32) (0 : Int32) = (0 : Int32) := by decide
  unfold own_ref
  rw [hm]
  simp only [own_cu, if_true, if_false, not_true_eq_false, and_false]
  rw [if_neg (fun z => z.1 (by decide))]
  rw [if_neg (fun z => z.1 (by decide))]
  rw [if_neg (fun z => z.1 (by decide))]
  decide
theorem own_fin_1_1 {a0 a1 a2 b0 b1 b2 : Int32} (ha0 : nar .char a0 = a0) (ha1 : nar .char a1 = a1) (ha2 : nar .char a2 = a2) (hb0 : nar .char b0 = b0) (hb1 : nar .char b1 = b1) (hb2 : nar .char b2 = b2) : own_sign (own_cu [a0] [b0] (1 : Int32) (1 : Int32)) = own_ref (1 : Int32) a0 a1 a2 (1 : Int32) b0 b1 b2 := by
  have hm : own_minI (1 : Int32) (1 : Int32) = (1 : Int32) := by decide
  unfold own_ref
  rw [hm]
  by_cases q0 : a0 = b0
  · skip
    simp only [own_cu, q0, if_true, if_false, not_true_eq_false, and_false]
    rw [if_neg (fun z => z.1 (by decide))]
    rw [if_neg (fun z => z.1 (by decide))]
    decide
  · simp only [own_cu, q0, if_true, if_false, not_true_eq_false, and_false]
    rw [own_ordr ha0 hb0 q0]
    rw [if_pos ⟨by decide, by simp⟩]
theorem own_fin_1_2 {a0 a1 a2 b0 b1 b2 : Int32} (ha0 : nar .char a0 = a0) (ha1 : nar .char a1 = a1) (ha2 : nar .char a2 = a2) (hb0 : nar .char b0 = b0) (hb1 : nar .char b1 = b1) (hb2 : nar .char b2 = b2) : own_sign (own_cu [a0] [b0, b1] (1 : Int32) (2 : Int32)) = own_ref (1 : Int32) a0 a1 a2 (2 : Int32) b0 b1 b2 := by
  have hm : own_minI (1 : Int32) (2 : Int32) = (1 : Int32) := by decide
  unfold own_ref
  rw [hm]
  by_cases q0 : a0 = b0
  · skip
    simp only [own_cu, q0, if_true, if_false, not_true_eq_false, and_false]
    rw [if_neg (fun z => z.1 (by decide))]
    rw [if_neg (fun z => z.1 (by decide))]
    decide
  · simp only [own_cu, q0, if_true, if_false, not_true_eq_false, and_false]
    rw [own_ordr ha0 hb0 q0]
    rw [if_pos ⟨by decide, by simp⟩]
theorem own_fin_1_3 {a0 a1 a2 b0 b1 b2 : Int32} (ha0 : nar .char a0 = a0) (ha1 : nar .char a1 = a1) (ha2 : nar .char a2 = a2) (hb0 : nar .char b0 = b0) (hb1 : nar .char b1 = b1) (hb2 : nar .char b2 = b2) : own_sign (own_cu [a0] [b0, b1, b2] (1 : Int32) (3 : Int32)) = own_ref (1 : Int32) a0 a1 a2 (3 : Int32) b0 b1 b2 := by
  have hm : own_minI (1 : Int32) (3 : Int32) = (1 : Int32) := by decide
  unfold own_ref
  rw [hm]
  by_cases q0 : a0 = b0
  · skip
    simp only [own_cu, q0, if_true, if_false, not_true_eq_false, and_false]
    rw [if_neg (fun z => z.1 (by decide))]
    rw [if_neg (fun z => z.1 (by decide))]
    decide
  · simp only [own_cu, q0, if_true, if_false, not_true_eq_false, and_false]
    rw [own_ordr ha0 hb0 q0]
    rw [if_pos ⟨by decide, by simp⟩]
theorem own_fin_2_0 {a0 a1 a2 b0 b1 b2 : Int32} (ha0 : nar .char a0 = a0) (ha1 : nar .char a1 = a1) (ha2 : nar .char a2 = a2) (hb0 : nar .char b0 = b0) (hb1 : nar .char b1 = b1) (hb2 : nar .char b2 = b2) : own_sign (own_cu [a0, a1] [] (2 : Int32) (0 : Int32)) = own_ref (2 : Int32) a0 a1 a2 (0 : Int32) b0 b1 b2 := by
  have hm : own_minI (2 : Int32) (0 : Int32) = (0 : Int32) := by decide
  unfold own_ref
  rw [hm]
  simp only [own_cu, if_true, if_false, not_true_eq_false, and_false]
  rw [if_neg (fun z => z.1 (by decide))]
  rw [if_neg (fun z => z.1 (by decide))]
  rw [if_neg (fun z => z.1 (by decide))]
  decide
theorem own_fin_2_1 {a0 a1 a2 b0 b1 b2 : Int32} (ha0 : nar .char a0 = a0) (ha1 : nar .char a1 = a1) (ha2 : nar .char a2 = a2) (hb0 : nar .char b0 = b0) (hb1 : nar .char b1 = b1) (hb2 : nar .char b2 = b2) : own_sign (own_cu [a0, a1] [b0] (2 : Int32) (1 : Int32)) = own_ref (2 : Int32) a0 a1 a2 (1 : Int32) b0 b1 b2 := by
  have hm : own_minI (2 : Int32) (1 : Int32) = (1 : Int32) := by decide
  unfold own_ref
  rw [hm]
  by_cases q0 : a0 = b0
  · skip
    simp only [own_cu, q0, if_true, if_false, not_true_eq_false, and_false]
    rw [if_neg (fun z => z.1 (by decide))]
    rw [if_neg (fun z => z.1 (by decide))]
    decide
  · simp only [own_cu, q0, if_true, if_false, not_true_eq_false, and_false]
    rw [own_ordr ha0 hb0 q0]
    rw [if_pos ⟨by decide, by simp⟩]
theorem own_fin_2_2 {a0 a1 a2 b0 b1 b2 : Int32} (ha0 : nar .char a0 = a0) (ha1 : nar .char a1 = a1) (ha2 : nar .char a2 = a2) (hb0 : nar .char b0 = b0) (hb1 : nar .char b1 = b1) (hb2 : nar .char b2 = b2) : own_sign (own_cu [a0, a1] [b0, b1] (2 : Int32) (2 : Int32)) = own_ref (2 : Int32) a0 a1 a2 (2 : Int32) b0 b1 b2 := by
  have hm : own_minI (2 : Int32) (2 : Int32) = (2 : Int32) := by decide
  unfold own_ref
  rw [hm]
  by_cases q0 : a0 = b0
  · skip
    by_cases q1 : a1 = b1
    · skip
      simp only [own_cu, q0, q1, if_true, if_false, not_true_eq_false, and_false]
      rw [if_neg (fun z => z.1 (by decide))]
      decide
    · simp only [own_cu, q0, q1, if_true, if_false, not_true_eq_false, and_false]
      rw [own_ordr ha1 hb1 q1]
      rw [if_pos ⟨by decide, by simp⟩]
  · simp only [own_cu, q0, if_true, if_false, not_true_eq_false, and_false]
    rw [own_ordr ha0 hb0 q0]
    rw [if_pos ⟨by decide, by simp⟩]
theorem own_fin_2_3 {a0 a1 a2 b0 b1 b2 : Int32} (ha0 : nar .char a0 = a0) (ha1 : nar .char a1 = a1) (ha2 : nar .char a2 = a2) (hb0 : nar .char b0 = b0) (hb1 : nar .char b1 = b1) (hb2 : nar .char b2 = b2) : own_sign (own_cu [a0, a1] [b0, b1, b2] (2 : Int32) (3 : Int32)) = own_ref (2 : Int32) a0 a1 a2 (3 : Int32) b0 b1 b2 := by
  have hm : own_minI (2 : Int32) (3 : Int32) = (2 : Int32) := by decide
  unfold own_ref
  rw [hm]
  by_cases q0 : a0 = b0
  · skip
    by_cases q1 : a1 = b1
    · skip
      simp only [own_cu, q0, q1, if_true, if_false, not_true_eq_false, and_false]
      rw [if_neg (fun z => z.1 (by decide))]
      decide
    · simp only [own_cu, q0, q1, if_true, if_false, not_true_eq_false, and_false]
      rw [own_ordr ha1 hb1 q1]
      rw [if_pos ⟨by decide, by simp⟩]
  · simp only [own_cu, q0, if_true, if_false, not_true_eq_false, and_false]
    rw [own_ordr ha0 hb0 q0]
    rw [if_pos ⟨by decide, by simp⟩]
theorem own_fin_3_0 {a0 a1 a2 b0 b1 b2 : Int32} (ha0 : nar .char a0 = a0) (ha1 : nar .char a1 = a1) (ha2 : nar .char a2 = a2) (hb0 : nar .char b0 = b0) (hb1 : nar .char b1 = b1) (hb2 : nar .char b2 = b2) : own_sign (own_cu [a0, a1, a2] [] (3 : Int32) (0 : Int32)) = own_ref (3 : Int32) a0 a1 a2 (0 : Int32) b0 b1 b2 := by
  have hm : own_minI (3 : Int32) (0 : Int32) = (0 : Int32) := by decide
  unfold own_ref
  rw [hm]
  simp only [own_cu, if_true, if_false, not_true_eq_false, and_false]
  rw [if_neg (fun z => z.1 (by decide))]
  rw [if_neg (fun z => z.1 (by decide))]
  rw [if_neg (fun z => z.1 (by decide))]
  decide
theorem own_fin_3_1 {a0 a1 a2 b0 b1 b2 : Int32} (ha0 : nar .char a0 = a0) (ha1 : nar .char a1 = a1) (ha2 : nar .char a2 = a2) (hb0 : nar .char b0 = b0) (hb1 : nar .char b1 = b1) (hb2 : nar .char b2 = b2) : own_sign (own_cu [a0, a1, a2] [b0] (3 : Int32) (1 : Int32)) = own_ref (3 : Int32) a0 a1 a2 (1 : Int32) b0 b1 b2 := by
  have hm : own_minI (3 : Int32) (1 : Int32) = (1 : Int32) := by decide
  unfold own_ref
  rw [hm]
  by_cases q0 : a0 = b0
  · skip
    simp only [own_cu, q0, if_true, if_false, not_true_eq_false, and_false]
    rw [if_neg (fun z => z.1 (by decide))]
    rw [if_neg (fun z => z.1 (by decide))]
    decide
  · simp only [own_cu, q0, if_true, if_false, not_true_eq_false, and_false]
    rw [own_ordr ha0 hb0 q0]
    rw [if_pos ⟨by decide, by simp⟩]
theorem own_fin_3_2 {a0 a1 a2 b0 b1 b2 : Int32} (ha0 : nar .char a0 = a0) (ha1 : nar .char a1 = a1) (ha2 : nar .char a2 = a2) (hb0 : nar .char b0 = b0) (hb1 : nar .char b1 = b1) (hb2 : nar .char b2 = b2) : own_sign (own_cu [a0, a1, a2] [b0, b1] (3 : Int32) (2 : Int32)) = own_ref (3 : Int32) a0 a1 a2 (2 : Int32) b0 b1 b2 := by
  have hm : own_minI (3 : Int32) (2 : Int32) = (2 : Int32) := by decide
  unfold own_ref
  rw [hm]
  by_cases q0 : a0 = b0
  · skip
    by_cases q1 : a1 = b1
    · skip
      simp only [own_cu, q0, q1, if_true, if_false, not_true_eq_false, and_false]
      rw [if_neg (fun z => z.1 (by decide))]
      decide
    · simp only [own_cu, q0, q1, if_true, if_false, not_true_eq_false, and_false]
      rw [own_ordr ha1 hb1 q1]
      rw [if_pos ⟨by decide, by simp⟩]
  · simp only [own_cu, q0, if_true, if_false, not_true_eq_false, and_false]
    rw [own_ordr ha0 hb0 q0]
    rw [if_pos ⟨by decide, by simp⟩]
theorem own_fin_3_3 {a0 a1 a2 b0 b1 b2 : Int32} (ha0 : nar .char a0 = a0) (ha1 : nar .char a1 = a1) (ha2 : nar .char a2 = a2) (hb0 : nar .char b0 = b0) (hb1 : nar .char b1 = b1) (hb2 : nar .char b2 = b2) : own_sign (own_cu [a0, a1, a2] [b0, b1, b2] (3 : Int32) (3 : Int32)) = own_ref (3 : Int32) a0 a1 a2 (3 : Int32) b0 b1 b2 := by
  have hm : own_minI (3 : Int32) (3 : Int32) = (3 : Int32) := by decide
  unfold own_ref
  rw [hm]
  by_cases q0 : a0 = b0
  · skip
    by_cases q1 : a1 = b1
    · skip
      by_cases q2 : a2 = b2
      · skip
        simp only [own_cu, q0, q1, q2, if_true, if_false, not_true_eq_false, and_false]
        decide
      · simp only [own_cu, q0, q1, q2, if_true, if_false, not_true_eq_false, and_false]
        rw [own_ordr ha2 hb2 q2]
        rw [if_pos ⟨by decide, by simp⟩]
    · simp only [own_cu, q0, q1, if_true, if_false, not_true_eq_false, and_false]
      rw [own_ordr ha1 hb1 q1]
      rw [if_pos ⟨by decide, by simp⟩]
  · simp only [own_cu, q0, if_true, if_false, not_true_eq_false, and_false]
    rw [own_ordr ha0 hb0 q0]
    rw [if_pos ⟨by decide, by simp⟩]
def own_U (Z : State) (zc : Int32) (fm : Value) : Prop := own_S Z zc fm ∧ Sta Z Z.heap "java/lang/StringUTF16" "$assertionsDisabled" "Z" (.int (1 : Int32)) ∧ Sta Z Z.heap "java/lang/StringUTF16" "HI_BYTE_SHIFT" "I" (.int (0 : Int32)) ∧ Sta Z Z.heap "java/lang/StringUTF16" "LO_BYTE_SHIFT" "I" (.int (8 : Int32))
theorem own_stI {s : State} {args : Array Value} {C n d : String} {o : Int32} (h : (Jvm.Cond.eq (Jvm.Term.static C n d) (Jvm.Term.int o)).value args s none s [] = some true) (hi : (Jvm.Cond.initializedFor C n d).before args s = true ∨ ((Jvm.Cond.initialized C).before args s = true ∧ (Jvm.Cond.laysStatic C n d).before args s = true)) : Sta s s.heap C n d (.int o) := by
  obtain ⟨x, y, h1, h2, k1, k2⟩ := cmp_v (Or.inl h)
  cases h2
  cases x <;> first | (obtain ⟨z, hz⟩ := k2; cases hz; done) | skip
  rename_i z
  have q := gotT (Jvm.RoadKit.own_eqI h1 rfl) h
  subst q
  exact Sta.start h1 hi
theorem wd_0 {a0 : Array Value} {Z : State} (hw : ∀ d ∈ tables_1, d.before a0 Z = true) : (Jvm.Cond.constant "com/example/whole_session/wholesession/RunCompareUtf8PinLaw" (7 : Nat) (65535 : Int32)).before a0 Z = true := hw _ (List.mem_of_getElem? (i := 0) rfl)
theorem wd_1 {a0 : Array Value} {Z : State} (hw : ∀ d ∈ tables_1, d.before a0 Z = true) : (Jvm.Cond.methodLink "com/example/whole_session/wholesession/RunCompareUtf8PinLaw" (8 : Nat) ({ cls := "com/example/whole_session/wholesession/RunCompareUtf8PinLaw", name := "str", desc := "(ICCC)Ljava/lang/String;" } : Jvm.MethodName)).before a0 Z = true := hw _ (List.mem_of_getElem? (i := 1) rfl)
theorem wd_2 {a0 : Array Value} {Z : State} (hw : ∀ d ∈ tables_1, d.before a0 Z = true) : (Jvm.Cond.static ({ cls := "com/example/whole_session/wholesession/RunCompareUtf8PinLaw", name := "str", desc := "(ICCC)Ljava/lang/String;" } : Jvm.MethodName)).before a0 Z = true := hw _ (List.mem_of_getElem? (i := 2) rfl)
theorem wd_3 {a0 : Array Value} {Z : State} (hw : ∀ d ∈ tables_1, d.before a0 Z = true) : (Jvm.Cond.initialized "com/example/whole_session/wholesession/RunCompareUtf8PinLaw").before a0 Z = true := hw _ (List.mem_of_getElem? (i := 3) rfl)
theorem wd_4 {a0 : Array Value} {Z : State} (hw : ∀ d ∈ tables_1, d.before a0 Z = true) : (Jvm.Cond.code ({ cls := "com/example/whole_session/wholesession/RunCompareUtf8PinLaw", name := "str", desc := "(ICCC)Ljava/lang/String;" } : Jvm.MethodName) method_3_code (4 : Nat) (Option.some (Jvm.ClassFile.FieldType.object "java/lang/String"))).before a0 Z = true := hw _ (List.mem_of_getElem? (i := 4) rfl)
theorem wd_5 {a0 : Array Value} {Z : State} (hw : ∀ d ∈ tables_1, d.before a0 Z = true) : (Jvm.Cond.classLink "com/example/whole_session/wholesession/RunCompareUtf8PinLaw" (28 : Nat) "java/lang/String").before a0 Z = true := hw _ (List.mem_of_getElem? (i := 5) rfl)
theorem wd_6 {a0 : Array Value} {Z : State} (hw : ∀ d ∈ tables_1, d.before a0 Z = true) : (Jvm.Cond.instantiable "java/lang/String" (4 : Nat)).before a0 Z = true := hw _ (List.mem_of_getElem? (i := 6) rfl)
theorem wd_7 {a0 : Array Value} {Z : State} (hw : ∀ d ∈ tables_1, d.before a0 Z = true) : (Jvm.Cond.initialized "java/lang/String").before a0 Z = true := hw _ (List.mem_of_getElem? (i := 7) rfl)
theorem wd_8 {a0 : Array Value} {Z : State} (hw : ∀ d ∈ tables_1, d.before a0 Z = true) : (Jvm.Cond.arrayClass Jvm.ClassFile.FieldType.char).before a0 Z = true := hw _ (List.mem_of_getElem? (i := 8) rfl)
theorem wd_9 {a0 : Array Value} {Z : State} (hw : ∀ d ∈ tables_1, d.before a0 Z = true) : (Jvm.Cond.methodLink "com/example/whole_session/wholesession/RunCompareUtf8PinLaw" (30 : Nat) ({ cls := "java/lang/String", name := "<init>", desc := "([C)V" } : Jvm.MethodName)).before a0 Z = true := hw _ (List.mem_of_getElem? (i := 9) rfl)
theorem wd_10 {a0 : Array Value} {Z : State} (hw : ∀ d ∈ tables_1, d.before a0 Z = true) : (Jvm.Cond.instanceMethod ({ cls := "java/lang/String", name := "<init>", desc := "([C)V" } : Jvm.MethodName)).before a0 Z = true := hw _ (List.mem_of_getElem? (i := 10) rfl)
theorem wd_11 {a0 : Array Value} {Z : State} (hw : ∀ d ∈ tables_1, d.before a0 Z = true) : (Jvm.Cond.code ({ cls := "java/lang/String", name := "<init>", desc := "([C)V" } : Jvm.MethodName) jdk_42_method_3_code (2 : Nat) (Option.none : Option Jvm.ClassFile.FieldType)).before a0 Z = true := hw _ (List.mem_of_getElem? (i := 11) rfl)
theorem wd_12 {a0 : Array Value} {Z : State} (hw : ∀ d ∈ tables_1, d.before a0 Z = true) : (Jvm.Cond.methodLink "java/lang/String" (27 : Nat) ({ cls := "java/lang/String", name := "<init>", desc := "([CIILjava/lang/Void;)V" } : Jvm.MethodName)).before a0 Z = true := hw _ (List.mem_of_getElem? (i := 12) rfl)
theorem wd_13 {a0 : Array Value} {Z : State} (hw : ∀ d ∈ tables_1, d.before a0 Z = true) : (Jvm.Cond.instanceMethod ({ cls := "java/lang/String", name := "<init>", desc := "([CIILjava/lang/Void;)V" } : Jvm.MethodName)).before a0 Z = true := hw _ (List.mem_of_getElem? (i := 13) rfl)
theorem wd_15 {a0 : Array Value} {Z : State} (hw : ∀ d ∈ tables_1, d.before a0 Z = true) : (Jvm.Cond.code ({ cls := "java/lang/String", name := "<init>", desc := "([CIILjava/lang/Void;)V" } : Jvm.MethodName) jdk_42_method_149_code (6 : Nat) (Option.none : Option Jvm.ClassFile.FieldType)).before a0 Z = true := hw _ (List.mem_of_getElem? (i := 15) rfl)
theorem wd_16 {a0 : Array Value} {Z : State} (hw : ∀ d ∈ tables_1, d.before a0 Z = true) : (Jvm.Cond.methodLink "java/lang/String" (1 : Nat) ({ cls := "java/lang/Object", name := "<init>", desc := "()V" } : Jvm.MethodName)).before a0 Z = true := hw _ (List.mem_of_getElem? (i := 16) rfl)
theorem wd_17 {a0 : Array Value} {Z : State} (hw : ∀ d ∈ tables_1, d.before a0 Z = true) : (Jvm.Cond.instanceMethod ({ cls := "java/lang/Object", name := "<init>", desc := "()V" } : Jvm.MethodName)).before a0 Z = true := hw _ (List.mem_of_getElem? (i := 17) rfl)
theorem wd_18 {a0 : Array Value} {Z : State} (hw : ∀ d ∈ tables_1, d.before a0 Z = true) : (Jvm.Cond.code ({ cls := "java/lang/Object", name := "<init>", desc := "()V" } : Jvm.MethodName) object_method_1_code (1 : Nat) (Option.none : Option Jvm.ClassFile.FieldType)).before a0 Z = true := hw _ (List.mem_of_getElem? (i := 18) rfl)
theorem wd_19 {a0 : Array Value} {Z : State} (hw : ∀ d ∈ tables_1, d.before a0 Z = true) : (Jvm.Cond.fieldLink "java/lang/String" (38 : Nat) "java/lang/String" "COMPACT_STRINGS" "Z").before a0 Z = true := hw _ (List.mem_of_getElem? (i := 19) rfl)
theorem wd_20 {a0 : Array Value} {Z : State} (hw : ∀ d ∈ tables_1, d.before a0 Z = true) : (Jvm.Cond.methodLink "java/lang/String" (177 : Nat) ({ cls := "java/lang/StringUTF16", name := "compress", desc := "([CII)[B" } : Jvm.MethodName)).before a0 Z = true := hw _ (List.mem_of_getElem? (i := 20) rfl)
theorem wd_21 {a0 : Array Value} {Z : State} (hw : ∀ d ∈ tables_1, d.before a0 Z = true) : (Jvm.Cond.static ({ cls := "java/lang/StringUTF16", name := "compress", desc := "([CII)[B" } : Jvm.MethodName)).before a0 Z = true := hw _ (List.mem_of_getElem? (i := 21) rfl)
theorem wd_22 {a0 : Array Value} {Z : State} (hw : ∀ d ∈ tables_1, d.before a0 Z = true) : (Jvm.Cond.initialized "java/lang/StringUTF16").before a0 Z = true := hw _ (List.mem_of_getElem? (i := 22) rfl)
theorem wd_23 {a0 : Array Value} {Z : State} (hw : ∀ d ∈ tables_1, d.before a0 Z = true) : (Jvm.Cond.code ({ cls := "java/lang/StringUTF16", name := "compress", desc := "([CII)[B" } : Jvm.MethodName) jdk_52_method_16_code (6 : Nat) (Option.some (Jvm.ClassFile.FieldType.array Jvm.ClassFile.FieldType.byte))).before a0 Z = true := hw _ (List.mem_of_getElem? (i := 23) rfl)
theorem wd_24 {a0 : Array Value} {Z : State} (hw : ∀ d ∈ tables_1, d.before a0 Z = true) : (Jvm.Cond.arrayClass Jvm.ClassFile.FieldType.byte).before a0 Z = true := hw _ (List.mem_of_getElem? (i := 24) rfl)
theorem wd_25 {a0 : Array Value} {Z : State} (hw : ∀ d ∈ tables_1, d.before a0 Z = true) : (Jvm.Cond.methodLink "java/lang/StringUTF16" (115 : Nat) ({ cls := "java/lang/StringUTF16", name := "compress", desc := "([CI[BII)I" } : Jvm.MethodName)).before a0 Z = true := hw _ (List.mem_of_getElem? (i := 25) rfl)
theorem wd_26 {a0 : Array Value} {Z : State} (hw : ∀ d ∈ tables_1, d.before a0 Z = true) : (Jvm.Cond.static ({ cls := "java/lang/StringUTF16", name := "compress", desc := "([CI[BII)I" } : Jvm.MethodName)).before a0 Z = true := hw _ (List.mem_of_getElem? (i := 26) rfl)
theorem wd_27 {a0 : Array Value} {Z : State} (hw : ∀ d ∈ tables_1, d.before a0 Z = true) : (Jvm.Cond.code ({ cls := "java/lang/StringUTF16", name := "compress", desc := "([CI[BII)I" } : Jvm.MethodName) jdk_52_method_21_code (7 : Nat) (Option.some Jvm.ClassFile.FieldType.int)).before a0 Z = true := hw _ (List.mem_of_getElem? (i := 27) rfl)
theorem wd_28 {a0 : Array Value} {Z : State} (hw : ∀ d ∈ tables_1, d.before a0 Z = true) : (Jvm.Cond.methodLink "java/lang/String" (47 : Nat) ({ cls := "java/lang/StringUTF16", name := "coderFromArrayLen", desc := "([BI)B" } : Jvm.MethodName)).before a0 Z = true := hw _ (List.mem_of_getElem? (i := 28) rfl)
theorem wd_29 {a0 : Array Value} {Z : State} (hw : ∀ d ∈ tables_1, d.before a0 Z = true) : (Jvm.Cond.static ({ cls := "java/lang/StringUTF16", name := "coderFromArrayLen", desc := "([BI)B" } : Jvm.MethodName)).before a0 Z = true := hw _ (List.mem_of_getElem? (i := 29) rfl)
theorem wd_30 {a0 : Array Value} {Z : State} (hw : ∀ d ∈ tables_1, d.before a0 Z = true) : (Jvm.Cond.code ({ cls := "java/lang/StringUTF16", name := "coderFromArrayLen", desc := "([BI)B" } : Jvm.MethodName) jdk_52_method_15_code (2 : Nat) (Option.some Jvm.ClassFile.FieldType.byte)).before a0 Z = true := hw _ (List.mem_of_getElem? (i := 30) rfl)
theorem wd_31 {a0 : Array Value} {Z : State} (hw : ∀ d ∈ tables_1, d.before a0 Z = true) : (Jvm.Cond.fieldLink "java/lang/String" (15 : Nat) "java/lang/String" "coder" "B").before a0 Z = true := hw _ (List.mem_of_getElem? (i := 31) rfl)
theorem wd_32 {a0 : Array Value} {Z : State} (hw : ∀ d ∈ tables_1, d.before a0 Z = true) : (Jvm.Cond.laysFinal "java/lang/String" "java/lang/String" "coder" "B").before a0 Z = true := hw _ (List.mem_of_getElem? (i := 32) rfl)
theorem wd_33 {a0 : Array Value} {Z : State} (hw : ∀ d ∈ tables_1, d.before a0 Z = true) : (Jvm.Cond.fieldLink "java/lang/String" (9 : Nat) "java/lang/String" "value" "[B").before a0 Z = true := hw _ (List.mem_of_getElem? (i := 33) rfl)
theorem wd_34 {a0 : Array Value} {Z : State} (hw : ∀ d ∈ tables_1, d.before a0 Z = true) : (Jvm.Cond.laysFinal "java/lang/String" "java/lang/String" "value" "[B").before a0 Z = true := hw _ (List.mem_of_getElem? (i := 34) rfl)
theorem wd_35 {a0 : Array Value} {Z : State} (hw : ∀ d ∈ tables_1, d.before a0 Z = true) : (Jvm.Cond.stringLink "java/lang/String" (7 : Nat) "").before a0 Z = true := hw _ (List.mem_of_getElem? (i := 35) rfl)
theorem wd_36 {a0 : Array Value} {Z : State} (hw : ∀ d ∈ tables_1, d.before a0 Z = true) : (Jvm.Cond.soleField "java/lang/String" "value").before a0 Z = true := hw _ (List.mem_of_getElem? (i := 36) rfl)
theorem wd_37 {a0 : Array Value} {Z : State} (hw : ∀ d ∈ tables_1, d.before a0 Z = true) : (Jvm.Cond.soleField "java/lang/String" "coder").before a0 Z = true := hw _ (List.mem_of_getElem? (i := 37) rfl)
theorem wd_38 {a0 : Array Value} {Z : State} (hw : ∀ d ∈ tables_1, d.before a0 Z = true) : (Jvm.Cond.methodLink "com/example/whole_session/wholesession/RunCompareUtf8PinLaw" (14 : Nat) ({ cls := "com/example/whole_session/wholesession/Run", name := "compareUtf8", desc := "(Ljava/lang/String;Ljava/lang/String;)I" } : Jvm.MethodName)).before a0 Z = true := hw _ (List.mem_of_getElem? (i := 38) rfl)
theorem wd_39 {a0 : Array Value} {Z : State} (hw : ∀ d ∈ tables_1, d.before a0 Z = true) : (Jvm.Cond.static ({ cls := "com/example/whole_session/wholesession/Run", name := "compareUtf8", desc := "(Ljava/lang/String;Ljava/lang/String;)I" } : Jvm.MethodName)).before a0 Z = true := hw _ (List.mem_of_getElem? (i := 39) rfl)
theorem wd_40 {a0 : Array Value} {Z : State} (hw : ∀ d ∈ tables_1, d.before a0 Z = true) : (Jvm.Cond.initialized "com/example/whole_session/wholesession/Run").before a0 Z = true := hw _ (List.mem_of_getElem? (i := 40) rfl)
theorem wd_41 {a0 : Array Value} {Z : State} (hw : ∀ d ∈ tables_1, d.before a0 Z = true) : (Jvm.Cond.code ({ cls := "com/example/whole_session/wholesession/Run", name := "compareUtf8", desc := "(Ljava/lang/String;Ljava/lang/String;)I" } : Jvm.MethodName) prog_41_method_13_code (6 : Nat) (Option.some Jvm.ClassFile.FieldType.int)).before a0 Z = true := hw _ (List.mem_of_getElem? (i := 41) rfl)
theorem wd_42 {a0 : Array Value} {Z : State} (hw : ∀ d ∈ tables_1, d.before a0 Z = true) : (Jvm.Cond.methodLink "com/example/whole_session/wholesession/Run" (157 : Nat) ({ cls := "java/lang/String", name := "length", desc := "()I" } : Jvm.MethodName)).before a0 Z = true := hw _ (List.mem_of_getElem? (i := 42) rfl)
theorem wd_43 {a0 : Array Value} {Z : State} (hw : ∀ d ∈ tables_1, d.before a0 Z = true) : (Jvm.Cond.declares ({ cls := "java/lang/String", name := "length", desc := "()I" } : Jvm.MethodName)).before a0 Z = true := hw _ (List.mem_of_getElem? (i := 43) rfl)
theorem wd_44 {a0 : Array Value} {Z : State} (hw : ∀ d ∈ tables_1, d.before a0 Z = true) : (Jvm.Cond.instanceMethod ({ cls := "java/lang/String", name := "length", desc := "()I" } : Jvm.MethodName)).before a0 Z = true := hw _ (List.mem_of_getElem? (i := 44) rfl)
theorem wd_45 {a0 : Array Value} {Z : State} (hw : ∀ d ∈ tables_1, d.before a0 Z = true) : (Jvm.Cond.selects "java/lang/String" ({ cls := "java/lang/String", name := "length", desc := "()I" } : Jvm.MethodName) ({ cls := "java/lang/String", name := "length", desc := "()I" } : Jvm.MethodName)).before a0 Z = true := hw _ (List.mem_of_getElem? (i := 45) rfl)
theorem wd_46 {a0 : Array Value} {Z : State} (hw : ∀ d ∈ tables_1, d.before a0 Z = true) : (Jvm.Cond.code ({ cls := "java/lang/String", name := "length", desc := "()I" } : Jvm.MethodName) jdk_42_method_54_code (1 : Nat) (Option.some Jvm.ClassFile.FieldType.int)).before a0 Z = true := hw _ (List.mem_of_getElem? (i := 46) rfl)
theorem wd_47 {a0 : Array Value} {Z : State} (hw : ∀ d ∈ tables_1, d.before a0 Z = true) : (Jvm.Cond.methodLink "java/lang/String" (335 : Nat) ({ cls := "java/lang/String", name := "coder", desc := "()B" } : Jvm.MethodName)).before a0 Z = true := hw _ (List.mem_of_getElem? (i := 47) rfl)
theorem wd_48 {a0 : Array Value} {Z : State} (hw : ∀ d ∈ tables_1, d.before a0 Z = true) : (Jvm.Cond.declares ({ cls := "java/lang/String", name := "coder", desc := "()B" } : Jvm.MethodName)).before a0 Z = true := hw _ (List.mem_of_getElem? (i := 48) rfl)
theorem wd_49 {a0 : Array Value} {Z : State} (hw : ∀ d ∈ tables_1, d.before a0 Z = true) : (Jvm.Cond.instanceMethod ({ cls := "java/lang/String", name := "coder", desc := "()B" } : Jvm.MethodName)).before a0 Z = true := hw _ (List.mem_of_getElem? (i := 49) rfl)
theorem wd_50 {a0 : Array Value} {Z : State} (hw : ∀ d ∈ tables_1, d.before a0 Z = true) : (Jvm.Cond.selects "java/lang/String" ({ cls := "java/lang/String", name := "coder", desc := "()B" } : Jvm.MethodName) ({ cls := "java/lang/String", name := "coder", desc := "()B" } : Jvm.MethodName)).before a0 Z = true := hw _ (List.mem_of_getElem? (i := 50) rfl)
theorem wd_51 {a0 : Array Value} {Z : State} (hw : ∀ d ∈ tables_1, d.before a0 Z = true) : (Jvm.Cond.code ({ cls := "java/lang/String", name := "coder", desc := "()B" } : Jvm.MethodName) jdk_42_method_152_code (1 : Nat) (Option.some Jvm.ClassFile.FieldType.byte)).before a0 Z = true := hw _ (List.mem_of_getElem? (i := 51) rfl)
theorem wd_52 {a0 : Array Value} {Z : State} (hw : ∀ d ∈ tables_1, d.before a0 Z = true) : (Jvm.Cond.methodLink "com/example/whole_session/wholesession/Run" (219 : Nat) ({ cls := "java/lang/Math", name := "min", desc := "(II)I" } : Jvm.MethodName)).before a0 Z = true := hw _ (List.mem_of_getElem? (i := 52) rfl)
theorem wd_53 {a0 : Array Value} {Z : State} (hw : ∀ d ∈ tables_1, d.before a0 Z = true) : (Jvm.Cond.static ({ cls := "java/lang/Math", name := "min", desc := "(II)I" } : Jvm.MethodName)).before a0 Z = true := hw _ (List.mem_of_getElem? (i := 53) rfl)
theorem wd_54 {a0 : Array Value} {Z : State} (hw : ∀ d ∈ tables_1, d.before a0 Z = true) : (Jvm.Cond.initialized "java/lang/Math").before a0 Z = true := hw _ (List.mem_of_getElem? (i := 54) rfl)
theorem wd_55 {a0 : Array Value} {Z : State} (hw : ∀ d ∈ tables_1, d.before a0 Z = true) : (Jvm.Cond.code ({ cls := "java/lang/Math", name := "min", desc := "(II)I" } : Jvm.MethodName) jdk_29_method_69_code (2 : Nat) (Option.some Jvm.ClassFile.FieldType.int)).before a0 Z = true := hw _ (List.mem_of_getElem? (i := 55) rfl)
theorem wd_56 {a0 : Array Value} {Z : State} (hw : ∀ d ∈ tables_1, d.before a0 Z = true) : (Jvm.Cond.methodLink "com/example/whole_session/wholesession/Run" (233 : Nat) ({ cls := "java/lang/Integer", name := "compare", desc := "(II)I" } : Jvm.MethodName)).before a0 Z = true := hw _ (List.mem_of_getElem? (i := 56) rfl)
theorem wd_57 {a0 : Array Value} {Z : State} (hw : ∀ d ∈ tables_1, d.before a0 Z = true) : (Jvm.Cond.static ({ cls := "java/lang/Integer", name := "compare", desc := "(II)I" } : Jvm.MethodName)).before a0 Z = true := hw _ (List.mem_of_getElem? (i := 57) rfl)
theorem wd_58 {a0 : Array Value} {Z : State} (hw : ∀ d ∈ tables_1, d.before a0 Z = true) : (Jvm.Cond.initialized "java/lang/Integer").before a0 Z = true := hw _ (List.mem_of_getElem? (i := 58) rfl)
theorem wd_59 {a0 : Array Value} {Z : State} (hw : ∀ d ∈ tables_1, d.before a0 Z = true) : (Jvm.Cond.code ({ cls := "java/lang/Integer", name := "compare", desc := "(II)I" } : Jvm.MethodName) jdk_33_method_40_code (2 : Nat) (Option.some Jvm.ClassFile.FieldType.int)).before a0 Z = true := hw _ (List.mem_of_getElem? (i := 59) rfl)
theorem wd_60 {a0 : Array Value} {Z : State} (hw : ∀ d ∈ tables_1, d.before a0 Z = true) : (Jvm.Cond.methodLink "com/example/whole_session/wholesession/RunCompareUtf8PinLaw" (20 : Nat) ({ cls := "com/example/whole_session/wholesession/RunCompareUtf8PinLaw", name := "sign", desc := "(I)I" } : Jvm.MethodName)).before a0 Z = true := hw _ (List.mem_of_getElem? (i := 60) rfl)
theorem wd_61 {a0 : Array Value} {Z : State} (hw : ∀ d ∈ tables_1, d.before a0 Z = true) : (Jvm.Cond.static ({ cls := "com/example/whole_session/wholesession/RunCompareUtf8PinLaw", name := "sign", desc := "(I)I" } : Jvm.MethodName)).before a0 Z = true := hw _ (List.mem_of_getElem? (i := 61) rfl)
theorem wd_62 {a0 : Array Value} {Z : State} (hw : ∀ d ∈ tables_1, d.before a0 Z = true) : (Jvm.Cond.code ({ cls := "com/example/whole_session/wholesession/RunCompareUtf8PinLaw", name := "sign", desc := "(I)I" } : Jvm.MethodName) method_4_code (1 : Nat) (Option.some Jvm.ClassFile.FieldType.int)).before a0 Z = true := hw _ (List.mem_of_getElem? (i := 62) rfl)
theorem wd_63 {a0 : Array Value} {Z : State} (hw : ∀ d ∈ tables_1, d.before a0 Z = true) : (Jvm.Cond.methodLink "com/example/whole_session/wholesession/RunCompareUtf8PinLaw" (24 : Nat) ({ cls := "com/example/whole_session/wholesession/RunCompareUtf8PinLaw", name := "reference", desc := "(ICCCICCC)I" } : Jvm.MethodName)).before a0 Z = true := hw _ (List.mem_of_getElem? (i := 63) rfl)
theorem wd_64 {a0 : Array Value} {Z : State} (hw : ∀ d ∈ tables_1, d.before a0 Z = true) : (Jvm.Cond.static ({ cls := "com/example/whole_session/wholesession/RunCompareUtf8PinLaw", name := "reference", desc := "(ICCCICCC)I" } : Jvm.MethodName)).before a0 Z = true := hw _ (List.mem_of_getElem? (i := 64) rfl)
theorem wd_65 {a0 : Array Value} {Z : State} (hw : ∀ d ∈ tables_1, d.before a0 Z = true) : (Jvm.Cond.code ({ cls := "com/example/whole_session/wholesession/RunCompareUtf8PinLaw", name := "reference", desc := "(ICCCICCC)I" } : Jvm.MethodName) method_6_code (9 : Nat) (Option.some Jvm.ClassFile.FieldType.int)).before a0 Z = true := hw _ (List.mem_of_getElem? (i := 65) rfl)
theorem wd_66 {a0 : Array Value} {Z : State} (hw : ∀ d ∈ tables_1, d.before a0 Z = true) : (Jvm.Cond.methodLink "com/example/whole_session/wholesession/RunCompareUtf8PinLaw" (35 : Nat) ({ cls := "java/lang/Math", name := "min", desc := "(II)I" } : Jvm.MethodName)).before a0 Z = true := hw _ (List.mem_of_getElem? (i := 66) rfl)
theorem wd_67 {a0 : Array Value} {Z : State} (hw : ∀ d ∈ tables_1, d.before a0 Z = true) : (Jvm.Cond.methodLink "com/example/whole_session/wholesession/Run" (225 : Nat) ({ cls := "java/lang/String", name := "charAt", desc := "(I)C" } : Jvm.MethodName)).before a0 Z = true := hw _ (List.mem_of_getElem? (i := 67) rfl)
theorem wd_68 {a0 : Array Value} {Z : State} (hw : ∀ d ∈ tables_1, d.before a0 Z = true) : (Jvm.Cond.declares ({ cls := "java/lang/String", name := "charAt", desc := "(I)C" } : Jvm.MethodName)).before a0 Z = true := hw _ (List.mem_of_getElem? (i := 68) rfl)
theorem wd_69 {a0 : Array Value} {Z : State} (hw : ∀ d ∈ tables_1, d.before a0 Z = true) : (Jvm.Cond.instanceMethod ({ cls := "java/lang/String", name := "charAt", desc := "(I)C" } : Jvm.MethodName)).before a0 Z = true := hw _ (List.mem_of_getElem? (i := 69) rfl)
theorem wd_70 {a0 : Array Value} {Z : State} (hw : ∀ d ∈ tables_1, d.before a0 Z = true) : (Jvm.Cond.selects "java/lang/String" ({ cls := "java/lang/String", name := "charAt", desc := "(I)C" } : Jvm.MethodName) ({ cls := "java/lang/String", name := "charAt", desc := "(I)C" } : Jvm.MethodName)).before a0 Z = true := hw _ (List.mem_of_getElem? (i := 70) rfl)
theorem wd_71 {a0 : Array Value} {Z : State} (hw : ∀ d ∈ tables_1, d.before a0 Z = true) : (Jvm.Cond.code ({ cls := "java/lang/String", name := "charAt", desc := "(I)C" } : Jvm.MethodName) jdk_42_method_56_code (2 : Nat) (Option.some Jvm.ClassFile.FieldType.char)).before a0 Z = true := hw _ (List.mem_of_getElem? (i := 71) rfl)
theorem wd_72 {a0 : Array Value} {Z : State} (hw : ∀ d ∈ tables_1, d.before a0 Z = true) : (Jvm.Cond.methodLink "java/lang/String" (492 : Nat) ({ cls := "java/lang/String", name := "isLatin1", desc := "()Z" } : Jvm.MethodName)).before a0 Z = true := hw _ (List.mem_of_getElem? (i := 72) rfl)
theorem wd_73 {a0 : Array Value} {Z : State} (hw : ∀ d ∈ tables_1, d.before a0 Z = true) : (Jvm.Cond.declares ({ cls := "java/lang/String", name := "isLatin1", desc := "()Z" } : Jvm.MethodName)).before a0 Z = true := hw _ (List.mem_of_getElem? (i := 73) rfl)
theorem wd_74 {a0 : Array Value} {Z : State} (hw : ∀ d ∈ tables_1, d.before a0 Z = true) : (Jvm.Cond.instanceMethod ({ cls := "java/lang/String", name := "isLatin1", desc := "()Z" } : Jvm.MethodName)).before a0 Z = true := hw _ (List.mem_of_getElem? (i := 74) rfl)
theorem wd_75 {a0 : Array Value} {Z : State} (hw : ∀ d ∈ tables_1, d.before a0 Z = true) : (Jvm.Cond.selects "java/lang/String" ({ cls := "java/lang/String", name := "isLatin1", desc := "()Z" } : Jvm.MethodName) ({ cls := "java/lang/String", name := "isLatin1", desc := "()Z" } : Jvm.MethodName)).before a0 Z = true := hw _ (List.mem_of_getElem? (i := 75) rfl)
theorem wd_76 {a0 : Array Value} {Z : State} (hw : ∀ d ∈ tables_1, d.before a0 Z = true) : (Jvm.Cond.code ({ cls := "java/lang/String", name := "isLatin1", desc := "()Z" } : Jvm.MethodName) jdk_42_method_154_code (1 : Nat) (Option.some Jvm.ClassFile.FieldType.boolean)).before a0 Z = true := hw _ (List.mem_of_getElem? (i := 76) rfl)
theorem wd_77 {a0 : Array Value} {Z : State} (hw : ∀ d ∈ tables_1, d.before a0 Z = true) : (Jvm.Cond.methodLink "java/lang/String" (495 : Nat) ({ cls := "java/lang/StringLatin1", name := "charAt", desc := "([BI)C" } : Jvm.MethodName)).before a0 Z = true := hw _ (List.mem_of_getElem? (i := 77) rfl)
theorem wd_78 {a0 : Array Value} {Z : State} (hw : ∀ d ∈ tables_1, d.before a0 Z = true) : (Jvm.Cond.static ({ cls := "java/lang/StringLatin1", name := "charAt", desc := "([BI)C" } : Jvm.MethodName)).before a0 Z = true := hw _ (List.mem_of_getElem? (i := 78) rfl)
theorem wd_79 {a0 : Array Value} {Z : State} (hw : ∀ d ∈ tables_1, d.before a0 Z = true) : (Jvm.Cond.initialized "java/lang/StringLatin1").before a0 Z = true := hw _ (List.mem_of_getElem? (i := 79) rfl)
theorem wd_80 {a0 : Array Value} {Z : State} (hw : ∀ d ∈ tables_1, d.before a0 Z = true) : (Jvm.Cond.code ({ cls := "java/lang/StringLatin1", name := "charAt", desc := "([BI)C" } : Jvm.MethodName) jdk_43_method_2_code (2 : Nat) (Option.some Jvm.ClassFile.FieldType.char)).before a0 Z = true := hw _ (List.mem_of_getElem? (i := 80) rfl)
theorem wd_81 {a0 : Array Value} {Z : State} (hw : ∀ d ∈ tables_1, d.before a0 Z = true) : (Jvm.Cond.methodLink "java/lang/StringLatin1" (9 : Nat) ({ cls := "java/lang/String", name := "checkIndex", desc := "(II)V" } : Jvm.MethodName)).before a0 Z = true := hw _ (List.mem_of_getElem? (i := 81) rfl)
theorem wd_82 {a0 : Array Value} {Z : State} (hw : ∀ d ∈ tables_1, d.before a0 Z = true) : (Jvm.Cond.static ({ cls := "java/lang/String", name := "checkIndex", desc := "(II)V" } : Jvm.MethodName)).before a0 Z = true := hw _ (List.mem_of_getElem? (i := 82) rfl)
theorem wd_83 {a0 : Array Value} {Z : State} (hw : ∀ d ∈ tables_1, d.before a0 Z = true) : (Jvm.Cond.code ({ cls := "java/lang/String", name := "checkIndex", desc := "(II)V" } : Jvm.MethodName) jdk_42_method_155_code (2 : Nat) (Option.none : Option Jvm.ClassFile.FieldType)).before a0 Z = true := hw _ (List.mem_of_getElem? (i := 83) rfl)
theorem wd_84 {a0 : Array Value} {Z : State} (hw : ∀ d ∈ tables_1, d.before a0 Z = true) : (Jvm.Cond.fieldLink "java/lang/String" (1053 : Nat) "jdk/internal/util/Preconditions" "SIOOBE_FORMATTER" "Ljava/util/function/BiFunction;").before a0 Z = true := hw _ (List.mem_of_getElem? (i := 84) rfl)
theorem wd_85 {a0 : Array Value} {Z : State} (hw : ∀ d ∈ tables_1, d.before a0 Z = true) : (Jvm.Cond.initialized "jdk/internal/util/Preconditions").before a0 Z = true := hw _ (List.mem_of_getElem? (i := 85) rfl)
theorem wd_86 {a0 : Array Value} {Z : State} (hw : ∀ d ∈ tables_1, d.before a0 Z = true) : (Jvm.Cond.methodLink "java/lang/String" (1059 : Nat) ({ cls := "jdk/internal/util/Preconditions", name := "checkIndex", desc := "(IILjava/util/function/BiFunction;)I" } : Jvm.MethodName)).before a0 Z = true := hw _ (List.mem_of_getElem? (i := 86) rfl)
theorem wd_87 {a0 : Array Value} {Z : State} (hw : ∀ d ∈ tables_1, d.before a0 Z = true) : (Jvm.Cond.static ({ cls := "jdk/internal/util/Preconditions", name := "checkIndex", desc := "(IILjava/util/function/BiFunction;)I" } : Jvm.MethodName)).before a0 Z = true := hw _ (List.mem_of_getElem? (i := 87) rfl)
theorem wd_88 {a0 : Array Value} {Z : State} (hw : ∀ d ∈ tables_1, d.before a0 Z = true) : (Jvm.Cond.code ({ cls := "jdk/internal/util/Preconditions", name := "checkIndex", desc := "(IILjava/util/function/BiFunction;)I" } : Jvm.MethodName) jdk_41_method_11_code (3 : Nat) (Option.some Jvm.ClassFile.FieldType.int)).before a0 Z = true := hw _ (List.mem_of_getElem? (i := 88) rfl)
theorem wd_89 {a0 : Array Value} {Z : State} (hw : ∀ d ∈ tables_1, d.before a0 Z = true) : (Jvm.Cond.methodLink "com/example/whole_session/wholesession/Run" (229 : Nat) ({ cls := "com/example/whole_session/wholesession/Run", name := "codePointOrder", desc := "(C)I" } : Jvm.MethodName)).before a0 Z = true := hw _ (List.mem_of_getElem? (i := 89) rfl)
theorem wd_90 {a0 : Array Value} {Z : State} (hw : ∀ d ∈ tables_1, d.before a0 Z = true) : (Jvm.Cond.static ({ cls := "com/example/whole_session/wholesession/Run", name := "codePointOrder", desc := "(C)I" } : Jvm.MethodName)).before a0 Z = true := hw _ (List.mem_of_getElem? (i := 90) rfl)
theorem wd_91 {a0 : Array Value} {Z : State} (hw : ∀ d ∈ tables_1, d.before a0 Z = true) : (Jvm.Cond.code ({ cls := "com/example/whole_session/wholesession/Run", name := "codePointOrder", desc := "(C)I" } : Jvm.MethodName) prog_41_method_14_code (1 : Nat) (Option.some Jvm.ClassFile.FieldType.int)).before a0 Z = true := hw _ (List.mem_of_getElem? (i := 91) rfl)
theorem wd_92 {a0 : Array Value} {Z : State} (hw : ∀ d ∈ tables_1, d.before a0 Z = true) : (Jvm.Cond.methodLink "com/example/whole_session/wholesession/Run" (236 : Nat) ({ cls := "java/lang/Character", name := "isSurrogate", desc := "(C)Z" } : Jvm.MethodName)).before a0 Z = true := hw _ (List.mem_of_getElem? (i := 92) rfl)
theorem wd_93 {a0 : Array Value} {Z : State} (hw : ∀ d ∈ tables_1, d.before a0 Z = true) : (Jvm.Cond.static ({ cls := "java/lang/Character", name := "isSurrogate", desc := "(C)Z" } : Jvm.MethodName)).before a0 Z = true := hw _ (List.mem_of_getElem? (i := 93) rfl)
theorem wd_94 {a0 : Array Value} {Z : State} (hw : ∀ d ∈ tables_1, d.before a0 Z = true) : (Jvm.Cond.initialized "java/lang/Character").before a0 Z = true := hw _ (List.mem_of_getElem? (i := 94) rfl)
theorem wd_95 {a0 : Array Value} {Z : State} (hw : ∀ d ∈ tables_1, d.before a0 Z = true) : (Jvm.Cond.code ({ cls := "java/lang/Character", name := "isSurrogate", desc := "(C)Z" } : Jvm.MethodName) jdk_89_method_16_code (1 : Nat) (Option.some Jvm.ClassFile.FieldType.boolean)).before a0 Z = true := hw _ (List.mem_of_getElem? (i := 95) rfl)
theorem wd_96 {a0 : Array Value} {Z : State} (hw : ∀ d ∈ tables_1, d.before a0 Z = true) : (Jvm.Cond.constant "java/lang/Character" (75 : Nat) (55296 : Int32)).before a0 Z = true := hw _ (List.mem_of_getElem? (i := 96) rfl)
theorem wd_97 {a0 : Array Value} {Z : State} (hw : ∀ d ∈ tables_1, d.before a0 Z = true) : (Jvm.Cond.methodLink "com/example/whole_session/wholesession/RunCompareUtf8PinLaw" (41 : Nat) ({ cls := "com/example/whole_session/wholesession/RunCompareUtf8PinLaw", name := "rank", desc := "(C)I" } : Jvm.MethodName)).before a0 Z = true := hw _ (List.mem_of_getElem? (i := 97) rfl)
theorem wd_98 {a0 : Array Value} {Z : State} (hw : ∀ d ∈ tables_1, d.before a0 Z = true) : (Jvm.Cond.static ({ cls := "com/example/whole_session/wholesession/RunCompareUtf8PinLaw", name := "rank", desc := "(C)I" } : Jvm.MethodName)).before a0 Z = true := hw _ (List.mem_of_getElem? (i := 98) rfl)
theorem wd_99 {a0 : Array Value} {Z : State} (hw : ∀ d ∈ tables_1, d.before a0 Z = true) : (Jvm.Cond.code ({ cls := "com/example/whole_session/wholesession/RunCompareUtf8PinLaw", name := "rank", desc := "(C)I" } : Jvm.MethodName) method_5_code (1 : Nat) (Option.some Jvm.ClassFile.FieldType.int)).before a0 Z = true := hw _ (List.mem_of_getElem? (i := 99) rfl)
theorem wd_100 {a0 : Array Value} {Z : State} (hw : ∀ d ∈ tables_1, d.before a0 Z = true) : (Jvm.Cond.constant "com/example/whole_session/wholesession/RunCompareUtf8PinLaw" (33 : Nat) (55296 : Int32)).before a0 Z = true := hw _ (List.mem_of_getElem? (i := 100) rfl)
theorem wd_101 {a0 : Array Value} {Z : State} (hw : ∀ d ∈ tables_1, d.before a0 Z = true) : (Jvm.Cond.methodLink "java/lang/StringUTF16" (119 : Nat) ({ cls := "java/lang/StringUTF16", name := "toBytes", desc := "([CII)[B" } : Jvm.MethodName)).before a0 Z = true := hw _ (List.mem_of_getElem? (i := 101) rfl)
theorem wd_102 {a0 : Array Value} {Z : State} (hw : ∀ d ∈ tables_1, d.before a0 Z = true) : (Jvm.Cond.static ({ cls := "java/lang/StringUTF16", name := "toBytes", desc := "([CII)[B" } : Jvm.MethodName)).before a0 Z = true := hw _ (List.mem_of_getElem? (i := 102) rfl)
theorem wd_103 {a0 : Array Value} {Z : State} (hw : ∀ d ∈ tables_1, d.before a0 Z = true) : (Jvm.Cond.code ({ cls := "java/lang/StringUTF16", name := "toBytes", desc := "([CII)[B" } : Jvm.MethodName) jdk_52_method_14_code (5 : Nat) (Option.some (Jvm.ClassFile.FieldType.array Jvm.ClassFile.FieldType.byte))).before a0 Z = true := hw _ (List.mem_of_getElem? (i := 103) rfl)
theorem wd_104 {a0 : Array Value} {Z : State} (hw : ∀ d ∈ tables_1, d.before a0 Z = true) : (Jvm.Cond.methodLink "java/lang/StringUTF16" (107 : Nat) ({ cls := "java/lang/StringUTF16", name := "newBytesFor", desc := "(I)[B" } : Jvm.MethodName)).before a0 Z = true := hw _ (List.mem_of_getElem? (i := 104) rfl)
theorem wd_105 {a0 : Array Value} {Z : State} (hw : ∀ d ∈ tables_1, d.before a0 Z = true) : (Jvm.Cond.static ({ cls := "java/lang/StringUTF16", name := "newBytesFor", desc := "(I)[B" } : Jvm.MethodName)).before a0 Z = true := hw _ (List.mem_of_getElem? (i := 105) rfl)
theorem wd_106 {a0 : Array Value} {Z : State} (hw : ∀ d ∈ tables_1, d.before a0 Z = true) : (Jvm.Cond.code ({ cls := "java/lang/StringUTF16", name := "newBytesFor", desc := "(I)[B" } : Jvm.MethodName) jdk_52_method_2_code (1 : Nat) (Option.some (Jvm.ClassFile.FieldType.array Jvm.ClassFile.FieldType.byte))).before a0 Z = true := hw _ (List.mem_of_getElem? (i := 106) rfl)
theorem wd_107 {a0 : Array Value} {Z : State} (hw : ∀ d ∈ tables_1, d.before a0 Z = true) : (Jvm.Cond.methodLink "java/lang/StringUTF16" (11 : Nat) ({ cls := "java/lang/StringUTF16", name := "newBytesLength", desc := "(I)I" } : Jvm.MethodName)).before a0 Z = true := hw _ (List.mem_of_getElem? (i := 107) rfl)
theorem wd_108 {a0 : Array Value} {Z : State} (hw : ∀ d ∈ tables_1, d.before a0 Z = true) : (Jvm.Cond.static ({ cls := "java/lang/StringUTF16", name := "newBytesLength", desc := "(I)I" } : Jvm.MethodName)).before a0 Z = true := hw _ (List.mem_of_getElem? (i := 108) rfl)
theorem wd_109 {a0 : Array Value} {Z : State} (hw : ∀ d ∈ tables_1, d.before a0 Z = true) : (Jvm.Cond.code ({ cls := "java/lang/StringUTF16", name := "newBytesLength", desc := "(I)I" } : Jvm.MethodName) jdk_52_method_3_code (1 : Nat) (Option.some Jvm.ClassFile.FieldType.int)).before a0 Z = true := hw _ (List.mem_of_getElem? (i := 109) rfl)
theorem wd_110 {a0 : Array Value} {Z : State} (hw : ∀ d ∈ tables_1, d.before a0 Z = true) : (Jvm.Cond.constant "java/lang/StringUTF16" (20 : Nat) (1073741823 : Int32)).before a0 Z = true := hw _ (List.mem_of_getElem? (i := 110) rfl)
theorem wd_111 {a0 : Array Value} {Z : State} (hw : ∀ d ∈ tables_1, d.before a0 Z = true) : (Jvm.Cond.methodLink "java/lang/StringUTF16" (111 : Nat) ({ cls := "java/lang/StringUTF16", name := "putChar", desc := "([BII)V" } : Jvm.MethodName)).before a0 Z = true := hw _ (List.mem_of_getElem? (i := 111) rfl)
theorem wd_112 {a0 : Array Value} {Z : State} (hw : ∀ d ∈ tables_1, d.before a0 Z = true) : (Jvm.Cond.static ({ cls := "java/lang/StringUTF16", name := "putChar", desc := "([BII)V" } : Jvm.MethodName)).before a0 Z = true := hw _ (List.mem_of_getElem? (i := 112) rfl)
theorem wd_113 {a0 : Array Value} {Z : State} (hw : ∀ d ∈ tables_1, d.before a0 Z = true) : (Jvm.Cond.code ({ cls := "java/lang/StringUTF16", name := "putChar", desc := "([BII)V" } : Jvm.MethodName) jdk_52_method_4_code (3 : Nat) (Option.none : Option Jvm.ClassFile.FieldType)).before a0 Z = true := hw _ (List.mem_of_getElem? (i := 113) rfl)
theorem wd_114 {a0 : Array Value} {Z : State} (hw : ∀ d ∈ tables_1, d.before a0 Z = true) : (Jvm.Cond.fieldLink "java/lang/StringUTF16" (44 : Nat) "java/lang/StringUTF16" "$assertionsDisabled" "Z").before a0 Z = true := hw _ (List.mem_of_getElem? (i := 114) rfl)
theorem wd_115 {a0 : Array Value} {Z : State} (hw : ∀ d ∈ tables_1, d.before a0 Z = true) : (Jvm.Cond.fieldLink "java/lang/StringUTF16" (59 : Nat) "java/lang/StringUTF16" "HI_BYTE_SHIFT" "I").before a0 Z = true := hw _ (List.mem_of_getElem? (i := 115) rfl)
theorem wd_116 {a0 : Array Value} {Z : State} (hw : ∀ d ∈ tables_1, d.before a0 Z = true) : (Jvm.Cond.fieldLink "java/lang/StringUTF16" (63 : Nat) "java/lang/StringUTF16" "LO_BYTE_SHIFT" "I").before a0 Z = true := hw _ (List.mem_of_getElem? (i := 116) rfl)
theorem wd_117 {a0 : Array Value} {Z : State} (hw : ∀ d ∈ tables_1, d.before a0 Z = true) : (Jvm.Cond.methodLink "java/lang/StringUTF16" (71 : Nat) ({ cls := "java/lang/StringUTF16", name := "getChar", desc := "([BI)C" } : Jvm.MethodName)).before a0 Z = true := hw _ (List.mem_of_getElem? (i := 117) rfl)
theorem wd_118 {a0 : Array Value} {Z : State} (hw : ∀ d ∈ tables_1, d.before a0 Z = true) : (Jvm.Cond.static ({ cls := "java/lang/StringUTF16", name := "getChar", desc := "([BI)C" } : Jvm.MethodName)).before a0 Z = true := hw _ (List.mem_of_getElem? (i := 118) rfl)
theorem wd_119 {a0 : Array Value} {Z : State} (hw : ∀ d ∈ tables_1, d.before a0 Z = true) : (Jvm.Cond.code ({ cls := "java/lang/StringUTF16", name := "getChar", desc := "([BI)C" } : Jvm.MethodName) jdk_52_method_5_code (2 : Nat) (Option.some Jvm.ClassFile.FieldType.char)).before a0 Z = true := hw _ (List.mem_of_getElem? (i := 119) rfl)
theorem wd_120 {a0 : Array Value} {Z : State} (hw : ∀ d ∈ tables_1, d.before a0 Z = true) : (Jvm.Cond.methodLink "java/lang/String" (498 : Nat) ({ cls := "java/lang/StringUTF16", name := "charAt", desc := "([BI)C" } : Jvm.MethodName)).before a0 Z = true := hw _ (List.mem_of_getElem? (i := 120) rfl)
theorem wd_121 {a0 : Array Value} {Z : State} (hw : ∀ d ∈ tables_1, d.before a0 Z = true) : (Jvm.Cond.static ({ cls := "java/lang/StringUTF16", name := "charAt", desc := "([BI)C" } : Jvm.MethodName)).before a0 Z = true := hw _ (List.mem_of_getElem? (i := 121) rfl)
theorem wd_122 {a0 : Array Value} {Z : State} (hw : ∀ d ∈ tables_1, d.before a0 Z = true) : (Jvm.Cond.code ({ cls := "java/lang/StringUTF16", name := "charAt", desc := "([BI)C" } : Jvm.MethodName) jdk_52_method_83_code (2 : Nat) (Option.some Jvm.ClassFile.FieldType.char)).before a0 Z = true := hw _ (List.mem_of_getElem? (i := 122) rfl)
theorem wd_123 {a0 : Array Value} {Z : State} (hw : ∀ d ∈ tables_1, d.before a0 Z = true) : (Jvm.Cond.methodLink "java/lang/StringUTF16" (67 : Nat) ({ cls := "java/lang/StringUTF16", name := "checkIndex", desc := "(I[B)V" } : Jvm.MethodName)).before a0 Z = true := hw _ (List.mem_of_getElem? (i := 123) rfl)
theorem wd_124 {a0 : Array Value} {Z : State} (hw : ∀ d ∈ tables_1, d.before a0 Z = true) : (Jvm.Cond.static ({ cls := "java/lang/StringUTF16", name := "checkIndex", desc := "(I[B)V" } : Jvm.MethodName)).before a0 Z = true := hw _ (List.mem_of_getElem? (i := 124) rfl)
theorem wd_125 {a0 : Array Value} {Z : State} (hw : ∀ d ∈ tables_1, d.before a0 Z = true) : (Jvm.Cond.code ({ cls := "java/lang/StringUTF16", name := "checkIndex", desc := "(I[B)V" } : Jvm.MethodName) jdk_52_method_91_code (2 : Nat) (Option.none : Option Jvm.ClassFile.FieldType)).before a0 Z = true := hw _ (List.mem_of_getElem? (i := 125) rfl)
theorem wd_126 {a0 : Array Value} {Z : State} (hw : ∀ d ∈ tables_1, d.before a0 Z = true) : (Jvm.Cond.methodLink "java/lang/StringUTF16" (48 : Nat) ({ cls := "java/lang/StringUTF16", name := "length", desc := "([B)I" } : Jvm.MethodName)).before a0 Z = true := hw _ (List.mem_of_getElem? (i := 126) rfl)
theorem wd_127 {a0 : Array Value} {Z : State} (hw : ∀ d ∈ tables_1, d.before a0 Z = true) : (Jvm.Cond.static ({ cls := "java/lang/StringUTF16", name := "length", desc := "([B)I" } : Jvm.MethodName)).before a0 Z = true := hw _ (List.mem_of_getElem? (i := 127) rfl)
theorem wd_128 {a0 : Array Value} {Z : State} (hw : ∀ d ∈ tables_1, d.before a0 Z = true) : (Jvm.Cond.code ({ cls := "java/lang/StringUTF16", name := "length", desc := "([B)I" } : Jvm.MethodName) jdk_52_method_6_code (1 : Nat) (Option.some Jvm.ClassFile.FieldType.int)).before a0 Z = true := hw _ (List.mem_of_getElem? (i := 128) rfl)
theorem wd_129 {a0 : Array Value} {Z : State} (hw : ∀ d ∈ tables_1, d.before a0 Z = true) : (Jvm.Cond.methodLink "java/lang/StringUTF16" (414 : Nat) ({ cls := "java/lang/String", name := "checkIndex", desc := "(II)V" } : Jvm.MethodName)).before a0 Z = true := hw _ (List.mem_of_getElem? (i := 129) rfl)
theorem wd_130 {a0 : Array Value} {Z : State} (hw : ∀ d ∈ tables_1, d.before a0 Z = true) : (Jvm.Cond.constant "java/lang/Character" (77 : Nat) (57344 : Int32)).before a0 Z = true := hw _ (List.mem_of_getElem? (i := 130) rfl)
theorem wd_131 {a0 : Array Value} {Z : State} (hw : ∀ d ∈ tables_1, d.before a0 Z = true) : (Jvm.Cond.constant "com/example/whole_session/wholesession/RunCompareUtf8PinLaw" (34 : Nat) (57344 : Int32)).before a0 Z = true := hw _ (List.mem_of_getElem? (i := 131) rfl)
theorem wd_132 {a0 : Array Value} {Z : State} (hw : ∀ d ∈ tables_1, d.before a0 Z = true) : (Jvm.Cond.constant "com/example/whole_session/wholesession/Run" (242 : Nat) (65536 : Int32)).before a0 Z = true := hw _ (List.mem_of_getElem? (i := 132) rfl)
theorem own_wS {a0 : Array Value} {Z : State} (hw : ∀ d ∈ tables_1, d.before a0 Z = true) : ∀ a ∈ Bundle.stringAtoms, a.before a0 Z = true := by
  intro d hd
  simp only [Bundle.stringAtoms, List.mem_cons, List.not_mem_nil, or_false] at hd
  rcases hd with rfl | rfl | rfl | rfl | rfl | rfl | rfl
  · exact (wd_7 hw)
  · exact (wd_6 hw)
  · exact (wd_24 hw)
  · exact (wd_34 hw)
  · exact (wd_32 hw)
  · exact (wd_36 hw)
  · exact (wd_37 hw)
theorem d_0 : Dc code 0 (.iload_n 3) 1 1 := ⟨at_0, rfl⟩
theorem d_1 : Dc code 1 (.iconst 3) 1 2 := ⟨at_1, rfl⟩
theorem d_2 : Dc code 2 (.iand) 1 3 := ⟨at_2, rfl⟩
theorem d_3 : Dc code 3 (.istore 4) 2 5 := ⟨at_3, rfl⟩
theorem d_5 : Dc code 5 (.iload_n 3) 1 6 := ⟨at_5, rfl⟩
theorem d_6 : Dc code 6 (.iconst 2) 1 7 := ⟨at_6, rfl⟩
theorem d_7 : Dc code 7 (.iushr) 1 8 := ⟨at_7, rfl⟩
theorem d_8 : Dc code 8 (.iconst 3) 1 9 := ⟨at_8, rfl⟩
theorem d_9 : Dc code 9 (.iand) 1 10 := ⟨at_9, rfl⟩
theorem d_10 : Dc code 10 (.istore 5) 2 12 := ⟨at_10, rfl⟩
theorem d_12 : Dc code 12 (.iload_n 0) 1 13 := ⟨at_12, rfl⟩
theorem d_13 : Dc code 13 (.ldc 7) 2 15 := ⟨at_13, rfl⟩
theorem d_15 : Dc code 15 (.iand) 1 16 := ⟨at_15, rfl⟩
theorem d_16 : Dc code 16 (.i2c) 1 17 := ⟨at_16, rfl⟩
theorem d_17 : Dc code 17 (.istore 6) 2 19 := ⟨at_17, rfl⟩
theorem d_19 : Dc code 19 (.iload_n 0) 1 20 := ⟨at_19, rfl⟩
theorem d_20 : Dc code 20 (.bipush 16) 2 22 := ⟨at_20, rfl⟩
theorem d_22 : Dc code 22 (.iushr) 1 23 := ⟨at_22, rfl⟩
theorem d_23 : Dc code 23 (.i2c) 1 24 := ⟨at_23, rfl⟩
theorem d_24 : Dc code 24 (.istore 7) 2 26 := ⟨at_24, rfl⟩
theorem d_26 : Dc code 26 (.iload_n 2) 1 27 := ⟨at_26, rfl⟩
theorem d_27 : Dc code 27 (.ldc 7) 2 29 := ⟨at_27, rfl⟩
theorem d_29 : Dc code 29 (.iand) 1 30 := ⟨at_29, rfl⟩
theorem d_30 : Dc code 30 (.i2c) 1 31 := ⟨at_30, rfl⟩
theorem d_31 : Dc code 31 (.istore 8) 2 33 := ⟨at_31, rfl⟩
theorem d_33 : Dc code 33 (.iload_n 3) 1 34 := ⟨at_33, rfl⟩
theorem d_34 : Dc code 34 (.bipush 16) 2 36 := ⟨at_34, rfl⟩
theorem d_36 : Dc code 36 (.iand) 1 37 := ⟨at_36, rfl⟩
theorem d_37 : Bc code 37 (.ifCond .eq) 45 40 := ⟨8, at_37, by decide, by decide, rfl⟩
theorem d_40 : Dc code 40 (.iload 6) 2 42 := ⟨at_40, rfl⟩
theorem d_42 : Bc code 42 (.goto) 50 45 := ⟨8, at_42, by decide, by decide, rfl⟩
theorem d_45 : Dc code 45 (.iload_n 1) 1 46 := ⟨at_45, rfl⟩
theorem d_46 : Dc code 46 (.ldc 7) 2 48 := ⟨at_46, rfl⟩
theorem d_48 : Dc code 48 (.iand) 1 49 := ⟨at_48, rfl⟩
theorem d_49 : Dc code 49 (.i2c) 1 50 := ⟨at_49, rfl⟩
theorem d_50 : Dc code 50 (.istore 9) 2 52 := ⟨at_50, rfl⟩
theorem d_52 : Dc code 52 (.iload_n 3) 1 53 := ⟨at_52, rfl⟩
theorem d_53 : Dc code 53 (.bipush 32) 2 55 := ⟨at_53, rfl⟩
theorem d_55 : Dc code 55 (.iand) 1 56 := ⟨at_55, rfl⟩
theorem d_56 : Bc code 56 (.ifCond .eq) 64 59 := ⟨8, at_56, by decide, by decide, rfl⟩
theorem d_59 : Dc code 59 (.iload 7) 2 61 := ⟨at_59, rfl⟩
theorem d_61 : Bc code 61 (.goto) 69 64 := ⟨8, at_61, by decide, by decide, rfl⟩
theorem d_64 : Dc code 64 (.iload_n 1) 1 65 := ⟨at_64, rfl⟩
theorem d_65 : Dc code 65 (.bipush 16) 2 67 := ⟨at_65, rfl⟩
theorem d_67 : Dc code 67 (.iushr) 1 68 := ⟨at_67, rfl⟩
theorem d_68 : Dc code 68 (.i2c) 1 69 := ⟨at_68, rfl⟩
theorem d_69 : Dc code 69 (.istore 10) 2 71 := ⟨at_69, rfl⟩
theorem d_71 : Dc code 71 (.iload_n 3) 1 72 := ⟨at_71, rfl⟩
theorem d_72 : Dc code 72 (.bipush 64) 2 74 := ⟨at_72, rfl⟩
theorem d_74 : Dc code 74 (.iand) 1 75 := ⟨at_74, rfl⟩
theorem d_75 : Bc code 75 (.ifCond .eq) 83 78 := ⟨8, at_75, by decide, by decide, rfl⟩
theorem d_78 : Dc code 78 (.iload 8) 2 80 := ⟨at_78, rfl⟩
theorem d_80 : Bc code 80 (.goto) 88 83 := ⟨8, at_80, by decide, by decide, rfl⟩
theorem d_83 : Dc code 83 (.iload_n 2) 1 84 := ⟨at_83, rfl⟩
theorem d_84 : Dc code 84 (.bipush 16) 2 86 := ⟨at_84, rfl⟩
theorem d_86 : Dc code 86 (.iushr) 1 87 := ⟨at_86, rfl⟩
theorem d_87 : Dc code 87 (.i2c) 1 88 := ⟨at_87, rfl⟩
theorem d_88 : Dc code 88 (.istore 11) 2 90 := ⟨at_88, rfl⟩
theorem d_90 : Dc code 90 (.iload 4) 2 92 := ⟨at_90, rfl⟩
theorem d_92 : Dc code 92 (.iload 6) 2 94 := ⟨at_92, rfl⟩
theorem d_94 : Dc code 94 (.iload 7) 2 96 := ⟨at_94, rfl⟩
theorem d_96 : Dc code 96 (.iload 8) 2 98 := ⟨at_96, rfl⟩
theorem d_98 : Dc code 98 (.invokestatic 8) 3 101 := ⟨at_98, rfl⟩
theorem d_101 : Dc code 101 (.astore 12) 2 103 := ⟨at_101, rfl⟩
theorem d_103 : Dc code 103 (.iload 5) 2 105 := ⟨at_103, rfl⟩
theorem d_105 : Dc code 105 (.iload 9) 2 107 := ⟨at_105, rfl⟩
theorem d_107 : Dc code 107 (.iload 10) 2 109 := ⟨at_107, rfl⟩
theorem d_109 : Dc code 109 (.iload 11) 2 111 := ⟨at_109, rfl⟩
theorem d_111 : Dc code 111 (.invokestatic 8) 3 114 := ⟨at_111, rfl⟩
theorem d_114 : Dc code 114 (.astore 13) 2 116 := ⟨at_114, rfl⟩
theorem d_116 : Dc code 116 (.aload 12) 2 118 := ⟨at_116, rfl⟩
theorem d_118 : Dc code 118 (.aload 13) 2 120 := ⟨at_118, rfl⟩
theorem d_120 : Dc code 120 (.invokestatic 14) 3 123 := ⟨at_120, rfl⟩
theorem d_123 : Dc code 123 (.invokestatic 20) 3 126 := ⟨at_123, rfl⟩
theorem d_126 : Dc code 126 (.istore 14) 2 128 := ⟨at_126, rfl⟩
theorem d_128 : Dc code 128 (.iload 4) 2 130 := ⟨at_128, rfl⟩
theorem d_130 : Dc code 130 (.iload 6) 2 132 := ⟨at_130, rfl⟩
theorem d_132 : Dc code 132 (.iload 7) 2 134 := ⟨at_132, rfl⟩
theorem d_134 : Dc code 134 (.iload 8) 2 136 := ⟨at_134, rfl⟩
theorem d_136 : Dc code 136 (.iload 5) 2 138 := ⟨at_136, rfl⟩
theorem d_138 : Dc code 138 (.iload 9) 2 140 := ⟨at_138, rfl⟩
theorem d_140 : Dc code 140 (.iload 10) 2 142 := ⟨at_140, rfl⟩
theorem d_142 : Dc code 142 (.iload 11) 2 144 := ⟨at_142, rfl⟩
theorem d_144 : Dc code 144 (.invokestatic 24) 3 147 := ⟨at_144, rfl⟩
theorem d_147 : Dc code 147 (.istore 15) 2 149 := ⟨at_147, rfl⟩
theorem d_149 : Dc code 149 (.iload 14) 2 151 := ⟨at_149, rfl⟩
theorem d_151 : Dc code 151 (.iload 15) 2 153 := ⟨at_151, rfl⟩
theorem d_153 : Bc code 153 (.if_icmp .ne) 160 156 := ⟨7, at_153, by decide, by decide, rfl⟩
theorem d_156 : Dc code 156 (.iconst 1) 1 157 := ⟨at_156, rfl⟩
theorem d_157 : Bc code 157 (.goto) 161 160 := ⟨4, at_157, by decide, by decide, rfl⟩
theorem d_161 : Dc code 161 (.ireturn) 1 162 := ⟨at_161, rfl⟩
theorem djdk_29_69_0 : Dc jdk_29_method_69_code 0 (.iload_n 0) 1 1 := ⟨by decide +kernel, rfl⟩
theorem djdk_29_69_1 : Dc jdk_29_method_69_code 1 (.iload_n 1) 1 2 := ⟨by decide +kernel, rfl⟩
theorem djdk_29_69_2 : Bc jdk_29_method_69_code 2 (.if_icmp .gt) 9 5 := ⟨7, by decide +kernel, by decide, by decide, rfl⟩
theorem djdk_29_69_5 : Dc jdk_29_method_69_code 5 (.iload_n 0) 1 6 := ⟨by decide +kernel, rfl⟩
theorem djdk_29_69_6 : Bc jdk_29_method_69_code 6 (.goto) 10 9 := ⟨4, by decide +kernel, by decide, by decide, rfl⟩
theorem djdk_29_69_9 : Dc jdk_29_method_69_code 9 (.iload_n 1) 1 10 := ⟨by decide +kernel, rfl⟩
theorem djdk_29_69_10 : Dc jdk_29_method_69_code 10 (.ireturn) 1 11 := ⟨by decide +kernel, rfl⟩
theorem djdk_33_40_0 : Dc jdk_33_method_40_code 0 (.iload_n 0) 1 1 := ⟨by decide +kernel, rfl⟩
theorem djdk_33_40_1 : Dc jdk_33_method_40_code 1 (.iload_n 1) 1 2 := ⟨by decide +kernel, rfl⟩
theorem djdk_33_40_2 : Bc jdk_33_method_40_code 2 (.if_icmp .ge) 9 5 := ⟨7, by decide +kernel, by decide, by decide, rfl⟩
theorem djdk_33_40_5 : Dc jdk_33_method_40_code 5 (.iconst (-1)) 1 6 := ⟨by decide +kernel, rfl⟩
theorem djdk_33_40_6 : Bc jdk_33_method_40_code 6 (.goto) 19 9 := ⟨13, by decide +kernel, by decide, by decide, rfl⟩
theorem djdk_33_40_9 : Dc jdk_33_method_40_code 9 (.iload_n 0) 1 10 := ⟨by decide +kernel, rfl⟩
theorem djdk_33_40_10 : Dc jdk_33_method_40_code 10 (.iload_n 1) 1 11 := ⟨by decide +kernel, rfl⟩
theorem djdk_33_40_11 : Bc jdk_33_method_40_code 11 (.if_icmp .ne) 18 14 := ⟨7, by decide +kernel, by decide, by decide, rfl⟩
theorem djdk_33_40_14 : Dc jdk_33_method_40_code 14 (.iconst 0) 1 15 := ⟨by decide +kernel, rfl⟩
theorem djdk_33_40_15 : Bc jdk_33_method_40_code 15 (.goto) 19 18 := ⟨4, by decide +kernel, by decide, by decide, rfl⟩
theorem djdk_33_40_18 : Dc jdk_33_method_40_code 18 (.iconst 1) 1 19 := ⟨by decide +kernel, rfl⟩
theorem djdk_33_40_19 : Dc jdk_33_method_40_code 19 (.ireturn) 1 20 := ⟨by decide +kernel, rfl⟩
theorem djdk_41_11_0 : Dc jdk_41_method_11_code 0 (.iload_n 0) 1 1 := ⟨by decide +kernel, rfl⟩
theorem djdk_41_11_1 : Bc jdk_41_method_11_code 1 (.ifCond .lt) 9 4 := ⟨8, by decide +kernel, by decide, by decide, rfl⟩
theorem djdk_41_11_4 : Dc jdk_41_method_11_code 4 (.iload_n 0) 1 5 := ⟨by decide +kernel, rfl⟩
theorem djdk_41_11_5 : Dc jdk_41_method_11_code 5 (.iload_n 1) 1 6 := ⟨by decide +kernel, rfl⟩
theorem djdk_41_11_6 : Bc jdk_41_method_11_code 6 (.if_icmp .lt) 16 9 := ⟨10, by decide +kernel, by decide, by decide, rfl⟩
theorem djdk_41_11_16 : Dc jdk_41_method_11_code 16 (.iload_n 0) 1 17 := ⟨by decide +kernel, rfl⟩
theorem djdk_41_11_17 : Dc jdk_41_method_11_code 17 (.ireturn) 1 18 := ⟨by decide +kernel, rfl⟩
theorem djdk_42_149_0 : Dc jdk_42_method_149_code 0 (.aload_n 0) 1 1 := ⟨by decide +kernel, rfl⟩
theorem djdk_42_149_1 : Dc jdk_42_method_149_code 1 (.invokespecial 1) 3 4 := ⟨by decide +kernel, rfl⟩
theorem djdk_42_149_4 : Dc jdk_42_method_149_code 4 (.iload_n 3) 1 5 := ⟨by decide +kernel, rfl⟩
theorem djdk_42_149_5 : Bc jdk_42_method_149_code 5 (.ifCond .ne) 27 8 := ⟨22, by decide +kernel, by decide, by decide, rfl⟩
theorem djdk_42_149_8 : Dc jdk_42_method_149_code 8 (.aload_n 0) 1 9 := ⟨by decide +kernel, rfl⟩
theorem djdk_42_149_9 : Dc jdk_42_method_149_code 9 (.ldc 7) 2 11 := ⟨by decide +kernel, rfl⟩
theorem djdk_42_149_11 : Dc jdk_42_method_149_code 11 (.getfield 9) 3 14 := ⟨by decide +kernel, rfl⟩
theorem djdk_42_149_14 : Dc jdk_42_method_149_code 14 (.putfield 9) 3 17 := ⟨by decide +kernel, rfl⟩
theorem djdk_42_149_17 : Dc jdk_42_method_149_code 17 (.aload_n 0) 1 18 := ⟨by decide +kernel, rfl⟩
theorem djdk_42_149_18 : Dc jdk_42_method_149_code 18 (.ldc 7) 2 20 := ⟨by decide +kernel, rfl⟩
theorem djdk_42_149_20 : Dc jdk_42_method_149_code 20 (.getfield 15) 3 23 := ⟨by decide +kernel, rfl⟩
theorem djdk_42_149_23 : Dc jdk_42_method_149_code 23 (.putfield 15) 3 26 := ⟨by decide +kernel, rfl⟩
theorem djdk_42_149_26 : Dc jdk_42_method_149_code 26 (.return_) 1 27 := ⟨by decide +kernel, rfl⟩
theorem djdk_42_149_27 : Dc jdk_42_method_149_code 27 (.getstatic 38) 3 30 := ⟨by decide +kernel, rfl⟩
theorem djdk_42_149_30 : Bc jdk_42_method_149_code 30 (.ifCond .eq) 58 33 := ⟨28, by decide +kernel, by decide, by decide, rfl⟩
theorem djdk_42_149_33 : Dc jdk_42_method_149_code 33 (.aload_n 1) 1 34 := ⟨by decide +kernel, rfl⟩
theorem djdk_42_149_34 : Dc jdk_42_method_149_code 34 (.iload_n 2) 1 35 := ⟨by decide +kernel, rfl⟩
theorem djdk_42_149_35 : Dc jdk_42_method_149_code 35 (.iload_n 3) 1 36 := ⟨by decide +kernel, rfl⟩
theorem djdk_42_149_36 : Dc jdk_42_method_149_code 36 (.invokestatic 177) 3 39 := ⟨by decide +kernel, rfl⟩
theorem djdk_42_149_39 : Dc jdk_42_method_149_code 39 (.astore 5) 2 41 := ⟨by decide +kernel, rfl⟩
theorem djdk_42_149_41 : Dc jdk_42_method_149_code 41 (.aload_n 0) 1 42 := ⟨by decide +kernel, rfl⟩
theorem djdk_42_149_42 : Dc jdk_42_method_149_code 42 (.aload 5) 2 44 := ⟨by decide +kernel, rfl⟩
theorem djdk_42_149_44 : Dc jdk_42_method_149_code 44 (.iload_n 3) 1 45 := ⟨by decide +kernel, rfl⟩
theorem djdk_42_149_45 : Dc jdk_42_method_149_code 45 (.invokestatic 47) 3 48 := ⟨by decide +kernel, rfl⟩
theorem djdk_42_149_48 : Dc jdk_42_method_149_code 48 (.putfield 15) 3 51 := ⟨by decide +kernel, rfl⟩
theorem djdk_42_149_51 : Dc jdk_42_method_149_code 51 (.aload_n 0) 1 52 := ⟨by decide +kernel, rfl⟩
theorem djdk_42_149_52 : Dc jdk_42_method_149_code 52 (.aload 5) 2 54 := ⟨by decide +kernel, rfl⟩
theorem djdk_42_149_54 : Dc jdk_42_method_149_code 54 (.putfield 9) 3 57 := ⟨by decide +kernel, rfl⟩
theorem djdk_42_149_57 : Dc jdk_42_method_149_code 57 (.return_) 1 58 := ⟨by decide +kernel, rfl⟩
theorem djdk_42_152_0 : Dc jdk_42_method_152_code 0 (.getstatic 38) 3 3 := ⟨by decide +kernel, rfl⟩
theorem djdk_42_152_3 : Bc jdk_42_method_152_code 3 (.ifCond .eq) 13 6 := ⟨10, by decide +kernel, by decide, by decide, rfl⟩
theorem djdk_42_152_6 : Dc jdk_42_method_152_code 6 (.aload_n 0) 1 7 := ⟨by decide +kernel, rfl⟩
theorem djdk_42_152_7 : Dc jdk_42_method_152_code 7 (.getfield 15) 3 10 := ⟨by decide +kernel, rfl⟩
theorem djdk_42_152_10 : Bc jdk_42_method_152_code 10 (.goto) 14 13 := ⟨4, by decide +kernel, by decide, by decide, rfl⟩
theorem djdk_42_152_14 : Dc jdk_42_method_152_code 14 (.ireturn) 1 15 := ⟨by decide +kernel, rfl⟩
theorem djdk_42_154_0 : Dc jdk_42_method_154_code 0 (.getstatic 38) 3 3 := ⟨by decide +kernel, rfl⟩
theorem djdk_42_154_3 : Bc jdk_42_method_154_code 3 (.ifCond .eq) 17 6 := ⟨14, by decide +kernel, by decide, by decide, rfl⟩
theorem djdk_42_154_6 : Dc jdk_42_method_154_code 6 (.aload_n 0) 1 7 := ⟨by decide +kernel, rfl⟩
theorem djdk_42_154_7 : Dc jdk_42_method_154_code 7 (.getfield 15) 3 10 := ⟨by decide +kernel, rfl⟩
theorem djdk_42_154_10 : Bc jdk_42_method_154_code 10 (.ifCond .ne) 17 13 := ⟨7, by decide +kernel, by decide, by decide, rfl⟩
theorem djdk_42_154_13 : Dc jdk_42_method_154_code 13 (.iconst 1) 1 14 := ⟨by decide +kernel, rfl⟩
theorem djdk_42_154_14 : Bc jdk_42_method_154_code 14 (.goto) 18 17 := ⟨4, by decide +kernel, by decide, by decide, rfl⟩
theorem djdk_42_154_17 : Dc jdk_42_method_154_code 17 (.iconst 0) 1 18 := ⟨by decide +kernel, rfl⟩
theorem djdk_42_154_18 : Dc jdk_42_method_154_code 18 (.ireturn) 1 19 := ⟨by decide +kernel, rfl⟩
theorem djdk_42_155_0 : Dc jdk_42_method_155_code 0 (.iload_n 0) 1 1 := ⟨by decide +kernel, rfl⟩
theorem djdk_42_155_1 : Dc jdk_42_method_155_code 1 (.iload_n 1) 1 2 := ⟨by decide +kernel, rfl⟩
theorem djdk_42_155_2 : Dc jdk_42_method_155_code 2 (.getstatic 1053) 3 5 := ⟨by decide +kernel, rfl⟩
theorem djdk_42_155_5 : Dc jdk_42_method_155_code 5 (.invokestatic 1059) 3 8 := ⟨by decide +kernel, rfl⟩
theorem djdk_42_155_8 : Dc jdk_42_method_155_code 8 (.pop) 1 9 := ⟨by decide +kernel, rfl⟩
theorem djdk_42_155_9 : Dc jdk_42_method_155_code 9 (.return_) 1 10 := ⟨by decide +kernel, rfl⟩
theorem djdk_42_3_0 : Dc jdk_42_method_3_code 0 (.aload_n 0) 1 1 := ⟨by decide +kernel, rfl⟩
theorem djdk_42_3_1 : Dc jdk_42_method_3_code 1 (.aload_n 1) 1 2 := ⟨by decide +kernel, rfl⟩
theorem djdk_42_3_2 : Dc jdk_42_method_3_code 2 (.iconst 0) 1 3 := ⟨by decide +kernel, rfl⟩
theorem djdk_42_3_3 : Dc jdk_42_method_3_code 3 (.aload_n 1) 1 4 := ⟨by decide +kernel, rfl⟩
theorem djdk_42_3_4 : Dc jdk_42_method_3_code 4 (.arraylength) 1 5 := ⟨by decide +kernel, rfl⟩
theorem djdk_42_3_5 : Dc jdk_42_method_3_code 5 (.aconst_null) 1 6 := ⟨by decide +kernel, rfl⟩
theorem djdk_42_3_6 : Dc jdk_42_method_3_code 6 (.invokespecial 27) 3 9 := ⟨by decide +kernel, rfl⟩
theorem djdk_42_3_9 : Dc jdk_42_method_3_code 9 (.return_) 1 10 := ⟨by decide +kernel, rfl⟩
theorem djdk_42_54_0 : Dc jdk_42_method_54_code 0 (.aload_n 0) 1 1 := ⟨by decide +kernel, rfl⟩
theorem djdk_42_54_1 : Dc jdk_42_method_54_code 1 (.getfield 9) 3 4 := ⟨by decide +kernel, rfl⟩
theorem djdk_42_54_4 : Dc jdk_42_method_54_code 4 (.arraylength) 1 5 := ⟨by decide +kernel, rfl⟩
theorem djdk_42_54_5 : Dc jdk_42_method_54_code 5 (.aload_n 0) 1 6 := ⟨by decide +kernel, rfl⟩
theorem djdk_42_54_6 : Dc jdk_42_method_54_code 6 (.invokevirtual 335) 3 9 := ⟨by decide +kernel, rfl⟩
theorem djdk_42_54_9 : Dc jdk_42_method_54_code 9 (.ishr) 1 10 := ⟨by decide +kernel, rfl⟩
theorem djdk_42_54_10 : Dc jdk_42_method_54_code 10 (.ireturn) 1 11 := ⟨by decide +kernel, rfl⟩
theorem djdk_42_56_0 : Dc jdk_42_method_56_code 0 (.aload_n 0) 1 1 := ⟨by decide +kernel, rfl⟩
theorem djdk_42_56_1 : Dc jdk_42_method_56_code 1 (.invokevirtual 492) 3 4 := ⟨by decide +kernel, rfl⟩
theorem djdk_42_56_4 : Bc jdk_42_method_56_code 4 (.ifCond .eq) 16 7 := ⟨12, by decide +kernel, by decide, by decide, rfl⟩
theorem djdk_42_56_7 : Dc jdk_42_method_56_code 7 (.aload_n 0) 1 8 := ⟨by decide +kernel, rfl⟩
theorem djdk_42_56_8 : Dc jdk_42_method_56_code 8 (.getfield 9) 3 11 := ⟨by decide +kernel, rfl⟩
theorem djdk_42_56_11 : Dc jdk_42_method_56_code 11 (.iload_n 1) 1 12 := ⟨by decide +kernel, rfl⟩
theorem djdk_42_56_12 : Dc jdk_42_method_56_code 12 (.invokestatic 495) 3 15 := ⟨by decide +kernel, rfl⟩
theorem djdk_42_56_15 : Dc jdk_42_method_56_code 15 (.ireturn) 1 16 := ⟨by decide +kernel, rfl⟩
theorem djdk_42_56_16 : Dc jdk_42_method_56_code 16 (.aload_n 0) 1 17 := ⟨by decide +kernel, rfl⟩
theorem djdk_42_56_17 : Dc jdk_42_method_56_code 17 (.getfield 9) 3 20 := ⟨by decide +kernel, rfl⟩
theorem djdk_42_56_20 : Dc jdk_42_method_56_code 20 (.iload_n 1) 1 21 := ⟨by decide +kernel, rfl⟩
theorem djdk_42_56_21 : Dc jdk_42_method_56_code 21 (.invokestatic 498) 3 24 := ⟨by decide +kernel, rfl⟩
theorem djdk_42_56_24 : Dc jdk_42_method_56_code 24 (.ireturn) 1 25 := ⟨by decide +kernel, rfl⟩
theorem djdk_43_2_0 : Dc jdk_43_method_2_code 0 (.iload_n 1) 1 1 := ⟨by decide +kernel, rfl⟩
theorem djdk_43_2_1 : Dc jdk_43_method_2_code 1 (.aload_n 0) 1 2 := ⟨by decide +kernel, rfl⟩
theorem djdk_43_2_2 : Dc jdk_43_method_2_code 2 (.arraylength) 1 3 := ⟨by decide +kernel, rfl⟩
theorem djdk_43_2_3 : Dc jdk_43_method_2_code 3 (.invokestatic 9) 3 6 := ⟨by decide +kernel, rfl⟩
theorem djdk_43_2_6 : Dc jdk_43_method_2_code 6 (.aload_n 0) 1 7 := ⟨by decide +kernel, rfl⟩
theorem djdk_43_2_7 : Dc jdk_43_method_2_code 7 (.iload_n 1) 1 8 := ⟨by decide +kernel, rfl⟩
theorem djdk_43_2_8 : Dc jdk_43_method_2_code 8 (.baload) 1 9 := ⟨by decide +kernel, rfl⟩
theorem djdk_43_2_9 : Dc jdk_43_method_2_code 9 (.sipush 255) 3 12 := ⟨by decide +kernel, rfl⟩
theorem djdk_43_2_12 : Dc jdk_43_method_2_code 12 (.iand) 1 13 := ⟨by decide +kernel, rfl⟩
theorem djdk_43_2_13 : Dc jdk_43_method_2_code 13 (.i2c) 1 14 := ⟨by decide +kernel, rfl⟩
theorem djdk_43_2_14 : Dc jdk_43_method_2_code 14 (.ireturn) 1 15 := ⟨by decide +kernel, rfl⟩
theorem djdk_52_14_0 : Dc jdk_52_method_14_code 0 (.iload_n 2) 1 1 := ⟨by decide +kernel, rfl⟩
theorem djdk_52_14_1 : Dc jdk_52_method_14_code 1 (.invokestatic 107) 3 4 := ⟨by decide +kernel, rfl⟩
theorem djdk_52_14_4 : Dc jdk_52_method_14_code 4 (.astore_n 3) 1 5 := ⟨by decide +kernel, rfl⟩
theorem djdk_52_14_5 : Dc jdk_52_method_14_code 5 (.iconst 0) 1 6 := ⟨by decide +kernel, rfl⟩
theorem djdk_52_14_6 : Dc jdk_52_method_14_code 6 (.istore 4) 2 8 := ⟨by decide +kernel, rfl⟩
theorem djdk_52_14_8 : Dc jdk_52_method_14_code 8 (.iload 4) 2 10 := ⟨by decide +kernel, rfl⟩
theorem djdk_52_14_10 : Dc jdk_52_method_14_code 10 (.iload_n 2) 1 11 := ⟨by decide +kernel, rfl⟩
theorem djdk_52_14_11 : Bc jdk_52_method_14_code 11 (.if_icmp .ge) 32 14 := ⟨21, by decide +kernel, by decide, by decide, rfl⟩
theorem djdk_52_14_14 : Dc jdk_52_method_14_code 14 (.aload_n 3) 1 15 := ⟨by decide +kernel, rfl⟩
theorem djdk_52_14_15 : Dc jdk_52_method_14_code 15 (.iload 4) 2 17 := ⟨by decide +kernel, rfl⟩
theorem djdk_52_14_17 : Dc jdk_52_method_14_code 17 (.aload_n 0) 1 18 := ⟨by decide +kernel, rfl⟩
theorem djdk_52_14_18 : Dc jdk_52_method_14_code 18 (.iload_n 1) 1 19 := ⟨by decide +kernel, rfl⟩
theorem djdk_52_14_19 : Dc jdk_52_method_14_code 19 (.caload) 1 20 := ⟨by decide +kernel, rfl⟩
theorem djdk_52_14_20 : Dc jdk_52_method_14_code 20 (.invokestatic 111) 3 23 := ⟨by decide +kernel, rfl⟩
theorem djdk_52_14_23 : Dc jdk_52_method_14_code 23 (.iinc 1 1) 3 26 := ⟨by decide +kernel, rfl⟩
theorem djdk_52_14_26 : Dc jdk_52_method_14_code 26 (.iinc 4 1) 3 29 := ⟨by decide +kernel, rfl⟩
theorem djdk_52_14_29 : Bc jdk_52_method_14_code 29 (.goto) 8 32 := ⟨(-21), by decide +kernel, by decide, by decide, rfl⟩
theorem djdk_52_14_32 : Dc jdk_52_method_14_code 32 (.aload_n 3) 1 33 := ⟨by decide +kernel, rfl⟩
theorem djdk_52_14_33 : Dc jdk_52_method_14_code 33 (.areturn) 1 34 := ⟨by decide +kernel, rfl⟩
theorem djdk_52_15_0 : Dc jdk_52_method_15_code 0 (.iload_n 1) 1 1 := ⟨by decide +kernel, rfl⟩
theorem djdk_52_15_1 : Dc jdk_52_method_15_code 1 (.aload_n 0) 1 2 := ⟨by decide +kernel, rfl⟩
theorem djdk_52_15_2 : Dc jdk_52_method_15_code 2 (.arraylength) 1 3 := ⟨by decide +kernel, rfl⟩
theorem djdk_52_15_3 : Dc jdk_52_method_15_code 3 (.isub) 1 4 := ⟨by decide +kernel, rfl⟩
theorem djdk_52_15_4 : Dc jdk_52_method_15_code 4 (.bipush 31) 2 6 := ⟨by decide +kernel, rfl⟩
theorem djdk_52_15_6 : Dc jdk_52_method_15_code 6 (.iushr) 1 7 := ⟨by decide +kernel, rfl⟩
theorem djdk_52_15_7 : Dc jdk_52_method_15_code 7 (.i2b) 1 8 := ⟨by decide +kernel, rfl⟩
theorem djdk_52_15_8 : Dc jdk_52_method_15_code 8 (.ireturn) 1 9 := ⟨by decide +kernel, rfl⟩
theorem djdk_52_16_0 : Dc jdk_52_method_16_code 0 (.iload_n 2) 1 1 := ⟨by decide +kernel, rfl⟩
theorem djdk_52_16_1 : Dc jdk_52_method_16_code 1 (.newarray .byte) 2 3 := ⟨by decide +kernel, rfl⟩
theorem djdk_52_16_3 : Dc jdk_52_method_16_code 3 (.astore_n 3) 1 4 := ⟨by decide +kernel, rfl⟩
theorem djdk_52_16_4 : Dc jdk_52_method_16_code 4 (.aload_n 0) 1 5 := ⟨by decide +kernel, rfl⟩
theorem djdk_52_16_5 : Dc jdk_52_method_16_code 5 (.iload_n 1) 1 6 := ⟨by decide +kernel, rfl⟩
theorem djdk_52_16_6 : Dc jdk_52_method_16_code 6 (.aload_n 3) 1 7 := ⟨by decide +kernel, rfl⟩
theorem djdk_52_16_7 : Dc jdk_52_method_16_code 7 (.iconst 0) 1 8 := ⟨by decide +kernel, rfl⟩
theorem djdk_52_16_8 : Dc jdk_52_method_16_code 8 (.iload_n 2) 1 9 := ⟨by decide +kernel, rfl⟩
theorem djdk_52_16_9 : Dc jdk_52_method_16_code 9 (.invokestatic 115) 3 12 := ⟨by decide +kernel, rfl⟩
theorem djdk_52_16_12 : Dc jdk_52_method_16_code 12 (.istore 4) 2 14 := ⟨by decide +kernel, rfl⟩
theorem djdk_52_16_14 : Dc jdk_52_method_16_code 14 (.iload 4) 2 16 := ⟨by decide +kernel, rfl⟩
theorem djdk_52_16_16 : Dc jdk_52_method_16_code 16 (.iload_n 2) 1 17 := ⟨by decide +kernel, rfl⟩
theorem djdk_52_16_17 : Bc jdk_52_method_16_code 17 (.if_icmp .eq) 57 20 := ⟨40, by decide +kernel, by decide, by decide, rfl⟩
theorem djdk_52_16_20 : Dc jdk_52_method_16_code 20 (.aload_n 0) 1 21 := ⟨by decide +kernel, rfl⟩
theorem djdk_52_16_21 : Dc jdk_52_method_16_code 21 (.iload_n 1) 1 22 := ⟨by decide +kernel, rfl⟩
theorem djdk_52_16_22 : Dc jdk_52_method_16_code 22 (.iload_n 2) 1 23 := ⟨by decide +kernel, rfl⟩
theorem djdk_52_16_23 : Dc jdk_52_method_16_code 23 (.invokestatic 119) 3 26 := ⟨by decide +kernel, rfl⟩
theorem djdk_52_16_26 : Dc jdk_52_method_16_code 26 (.astore 5) 2 28 := ⟨by decide +kernel, rfl⟩
theorem djdk_52_16_28 : Dc jdk_52_method_16_code 28 (.aload 5) 2 30 := ⟨by decide +kernel, rfl⟩
theorem djdk_52_16_30 : Dc jdk_52_method_16_code 30 (.iload 4) 2 32 := ⟨by decide +kernel, rfl⟩
theorem djdk_52_16_32 : Dc jdk_52_method_16_code 32 (.invokestatic 71) 3 35 := ⟨by decide +kernel, rfl⟩
theorem djdk_52_16_35 : Dc jdk_52_method_16_code 35 (.sipush 255) 3 38 := ⟨by decide +kernel, rfl⟩
theorem djdk_52_16_38 : Bc jdk_52_method_16_code 38 (.if_icmp .gt) 54 41 := ⟨16, by decide +kernel, by decide, by decide, rfl⟩
theorem djdk_52_16_54 : Dc jdk_52_method_16_code 54 (.aload 5) 2 56 := ⟨by decide +kernel, rfl⟩
theorem djdk_52_16_56 : Dc jdk_52_method_16_code 56 (.areturn) 1 57 := ⟨by decide +kernel, rfl⟩
theorem djdk_52_16_57 : Dc jdk_52_method_16_code 57 (.aload_n 3) 1 58 := ⟨by decide +kernel, rfl⟩
theorem djdk_52_16_58 : Dc jdk_52_method_16_code 58 (.areturn) 1 59 := ⟨by decide +kernel, rfl⟩
theorem djdk_52_21_0 : Dc jdk_52_method_21_code 0 (.iconst 0) 1 1 := ⟨by decide +kernel, rfl⟩
theorem djdk_52_21_1 : Dc jdk_52_method_21_code 1 (.istore 5) 2 3 := ⟨by decide +kernel, rfl⟩
theorem djdk_52_21_3 : Dc jdk_52_method_21_code 3 (.iload 5) 2 5 := ⟨by decide +kernel, rfl⟩
theorem djdk_52_21_5 : Dc jdk_52_method_21_code 5 (.iload 4) 2 7 := ⟨by decide +kernel, rfl⟩
theorem djdk_52_21_7 : Bc jdk_52_method_21_code 7 (.if_icmp .ge) 44 10 := ⟨37, by decide +kernel, by decide, by decide, rfl⟩
theorem djdk_52_21_10 : Dc jdk_52_method_21_code 10 (.aload_n 0) 1 11 := ⟨by decide +kernel, rfl⟩
theorem djdk_52_21_11 : Dc jdk_52_method_21_code 11 (.iload_n 1) 1 12 := ⟨by decide +kernel, rfl⟩
theorem djdk_52_21_12 : Dc jdk_52_method_21_code 12 (.caload) 1 13 := ⟨by decide +kernel, rfl⟩
theorem djdk_52_21_13 : Dc jdk_52_method_21_code 13 (.istore 6) 2 15 := ⟨by decide +kernel, rfl⟩
theorem djdk_52_21_15 : Dc jdk_52_method_21_code 15 (.iload 6) 2 17 := ⟨by decide +kernel, rfl⟩
theorem djdk_52_21_17 : Dc jdk_52_method_21_code 17 (.sipush 255) 3 20 := ⟨by decide +kernel, rfl⟩
theorem djdk_52_21_20 : Bc jdk_52_method_21_code 20 (.if_icmp .le) 26 23 := ⟨6, by decide +kernel, by decide, by decide, rfl⟩
theorem djdk_52_21_23 : Dc jdk_52_method_21_code 23 (.iload 5) 2 25 := ⟨by decide +kernel, rfl⟩
theorem djdk_52_21_25 : Dc jdk_52_method_21_code 25 (.ireturn) 1 26 := ⟨by decide +kernel, rfl⟩
theorem djdk_52_21_26 : Dc jdk_52_method_21_code 26 (.aload_n 2) 1 27 := ⟨by decide +kernel, rfl⟩
theorem djdk_52_21_27 : Dc jdk_52_method_21_code 27 (.iload_n 3) 1 28 := ⟨by decide +kernel, rfl⟩
theorem djdk_52_21_28 : Dc jdk_52_method_21_code 28 (.iload 6) 2 30 := ⟨by decide +kernel, rfl⟩
theorem djdk_52_21_30 : Dc jdk_52_method_21_code 30 (.i2b) 1 31 := ⟨by decide +kernel, rfl⟩
theorem djdk_52_21_31 : Dc jdk_52_method_21_code 31 (.bastore) 1 32 := ⟨by decide +kernel, rfl⟩
theorem djdk_52_21_32 : Dc jdk_52_method_21_code 32 (.iinc 1 1) 3 35 := ⟨by decide +kernel, rfl⟩
theorem djdk_52_21_35 : Dc jdk_52_method_21_code 35 (.iinc 3 1) 3 38 := ⟨by decide +kernel, rfl⟩
theorem djdk_52_21_38 : Dc jdk_52_method_21_code 38 (.iinc 5 1) 3 41 := ⟨by decide +kernel, rfl⟩
theorem djdk_52_21_41 : Bc jdk_52_method_21_code 41 (.goto) 3 44 := ⟨(-38), by decide +kernel, by decide, by decide, rfl⟩
theorem djdk_52_21_44 : Dc jdk_52_method_21_code 44 (.iload 4) 2 46 := ⟨by decide +kernel, rfl⟩
theorem djdk_52_21_46 : Dc jdk_52_method_21_code 46 (.ireturn) 1 47 := ⟨by decide +kernel, rfl⟩
theorem djdk_52_2_0 : Dc jdk_52_method_2_code 0 (.iload_n 0) 1 1 := ⟨by decide +kernel, rfl⟩
theorem djdk_52_2_1 : Dc jdk_52_method_2_code 1 (.invokestatic 11) 3 4 := ⟨by decide +kernel, rfl⟩
theorem djdk_52_2_4 : Dc jdk_52_method_2_code 4 (.newarray .byte) 2 6 := ⟨by decide +kernel, rfl⟩
theorem djdk_52_2_6 : Dc jdk_52_method_2_code 6 (.areturn) 1 7 := ⟨by decide +kernel, rfl⟩
theorem djdk_52_3_0 : Dc jdk_52_method_3_code 0 (.iload_n 0) 1 1 := ⟨by decide +kernel, rfl⟩
theorem djdk_52_3_1 : Bc jdk_52_method_3_code 1 (.ifCond .ge) 12 4 := ⟨11, by decide +kernel, by decide, by decide, rfl⟩
theorem djdk_52_3_12 : Dc jdk_52_method_3_code 12 (.iload_n 0) 1 13 := ⟨by decide +kernel, rfl⟩
theorem djdk_52_3_13 : Dc jdk_52_method_3_code 13 (.ldc 20) 2 15 := ⟨by decide +kernel, rfl⟩
theorem djdk_52_3_15 : Bc jdk_52_method_3_code 15 (.if_icmp .lt) 55 18 := ⟨40, by decide +kernel, by decide, by decide, rfl⟩
theorem djdk_52_3_55 : Dc jdk_52_method_3_code 55 (.iload_n 0) 1 56 := ⟨by decide +kernel, rfl⟩
theorem djdk_52_3_56 : Dc jdk_52_method_3_code 56 (.iconst 1) 1 57 := ⟨by decide +kernel, rfl⟩
theorem djdk_52_3_57 : Dc jdk_52_method_3_code 57 (.ishl) 1 58 := ⟨by decide +kernel, rfl⟩
theorem djdk_52_3_58 : Dc jdk_52_method_3_code 58 (.ireturn) 1 59 := ⟨by decide +kernel, rfl⟩
theorem djdk_52_4_0 : Dc jdk_52_method_4_code 0 (.getstatic 44) 3 3 := ⟨by decide +kernel, rfl⟩
theorem djdk_52_4_3 : Bc jdk_52_method_4_code 3 (.ifCond .ne) 28 6 := ⟨25, by decide +kernel, by decide, by decide, rfl⟩
theorem djdk_52_4_28 : Dc jdk_52_method_4_code 28 (.iload_n 1) 1 29 := ⟨by decide +kernel, rfl⟩
theorem djdk_52_4_29 : Dc jdk_52_method_4_code 29 (.iconst 1) 1 30 := ⟨by decide +kernel, rfl⟩
theorem djdk_52_4_30 : Dc jdk_52_method_4_code 30 (.ishl) 1 31 := ⟨by decide +kernel, rfl⟩
theorem djdk_52_4_31 : Dc jdk_52_method_4_code 31 (.istore_n 1) 1 32 := ⟨by decide +kernel, rfl⟩
theorem djdk_52_4_32 : Dc jdk_52_method_4_code 32 (.aload_n 0) 1 33 := ⟨by decide +kernel, rfl⟩
theorem djdk_52_4_33 : Dc jdk_52_method_4_code 33 (.iload_n 1) 1 34 := ⟨by decide +kernel, rfl⟩
theorem djdk_52_4_34 : Dc jdk_52_method_4_code 34 (.iinc 1 1) 3 37 := ⟨by decide +kernel, rfl⟩
theorem djdk_52_4_37 : Dc jdk_52_method_4_code 37 (.iload_n 2) 1 38 := ⟨by decide +kernel, rfl⟩
theorem djdk_52_4_38 : Dc jdk_52_method_4_code 38 (.getstatic 59) 3 41 := ⟨by decide +kernel, rfl⟩
theorem djdk_52_4_41 : Dc jdk_52_method_4_code 41 (.ishr) 1 42 := ⟨by decide +kernel, rfl⟩
theorem djdk_52_4_42 : Dc jdk_52_method_4_code 42 (.i2b) 1 43 := ⟨by decide +kernel, rfl⟩
theorem djdk_52_4_43 : Dc jdk_52_method_4_code 43 (.bastore) 1 44 := ⟨by decide +kernel, rfl⟩
theorem djdk_52_4_44 : Dc jdk_52_method_4_code 44 (.aload_n 0) 1 45 := ⟨by decide +kernel, rfl⟩
theorem djdk_52_4_45 : Dc jdk_52_method_4_code 45 (.iload_n 1) 1 46 := ⟨by decide +kernel, rfl⟩
theorem djdk_52_4_46 : Dc jdk_52_method_4_code 46 (.iload_n 2) 1 47 := ⟨by decide +kernel, rfl⟩
theorem djdk_52_4_47 : Dc jdk_52_method_4_code 47 (.getstatic 63) 3 50 := ⟨by decide +kernel, rfl⟩
theorem djdk_52_4_50 : Dc jdk_52_method_4_code 50 (.ishr) 1 51 := ⟨by decide +kernel, rfl⟩
theorem djdk_52_4_51 : Dc jdk_52_method_4_code 51 (.i2b) 1 52 := ⟨by decide +kernel, rfl⟩
theorem djdk_52_4_52 : Dc jdk_52_method_4_code 52 (.bastore) 1 53 := ⟨by decide +kernel, rfl⟩
theorem djdk_52_4_53 : Dc jdk_52_method_4_code 53 (.return_) 1 54 := ⟨by decide +kernel, rfl⟩
theorem djdk_52_5_0 : Dc jdk_52_method_5_code 0 (.getstatic 44) 3 3 := ⟨by decide +kernel, rfl⟩
theorem djdk_52_5_3 : Bc jdk_52_method_5_code 3 (.ifCond .ne) 28 6 := ⟨25, by decide +kernel, by decide, by decide, rfl⟩
theorem djdk_52_5_28 : Dc jdk_52_method_5_code 28 (.iload_n 1) 1 29 := ⟨by decide +kernel, rfl⟩
theorem djdk_52_5_29 : Dc jdk_52_method_5_code 29 (.iconst 1) 1 30 := ⟨by decide +kernel, rfl⟩
theorem djdk_52_5_30 : Dc jdk_52_method_5_code 30 (.ishl) 1 31 := ⟨by decide +kernel, rfl⟩
theorem djdk_52_5_31 : Dc jdk_52_method_5_code 31 (.istore_n 1) 1 32 := ⟨by decide +kernel, rfl⟩
theorem djdk_52_5_32 : Dc jdk_52_method_5_code 32 (.aload_n 0) 1 33 := ⟨by decide +kernel, rfl⟩
theorem djdk_52_5_33 : Dc jdk_52_method_5_code 33 (.iload_n 1) 1 34 := ⟨by decide +kernel, rfl⟩
theorem djdk_52_5_34 : Dc jdk_52_method_5_code 34 (.iinc 1 1) 3 37 := ⟨by decide +kernel, rfl⟩
theorem djdk_52_5_37 : Dc jdk_52_method_5_code 37 (.baload) 1 38 := ⟨by decide +kernel, rfl⟩
theorem djdk_52_5_38 : Dc jdk_52_method_5_code 38 (.sipush 255) 3 41 := ⟨by decide +kernel, rfl⟩
theorem djdk_52_5_41 : Dc jdk_52_method_5_code 41 (.iand) 1 42 := ⟨by decide +kernel, rfl⟩
theorem djdk_52_5_42 : Dc jdk_52_method_5_code 42 (.getstatic 59) 3 45 := ⟨by decide +kernel, rfl⟩
theorem djdk_52_5_45 : Dc jdk_52_method_5_code 45 (.ishl) 1 46 := ⟨by decide +kernel, rfl⟩
theorem djdk_52_5_46 : Dc jdk_52_method_5_code 46 (.aload_n 0) 1 47 := ⟨by decide +kernel, rfl⟩
theorem djdk_52_5_47 : Dc jdk_52_method_5_code 47 (.iload_n 1) 1 48 := ⟨by decide +kernel, rfl⟩
theorem djdk_52_5_48 : Dc jdk_52_method_5_code 48 (.baload) 1 49 := ⟨by decide +kernel, rfl⟩
theorem djdk_52_5_49 : Dc jdk_52_method_5_code 49 (.sipush 255) 3 52 := ⟨by decide +kernel, rfl⟩
theorem djdk_52_5_52 : Dc jdk_52_method_5_code 52 (.iand) 1 53 := ⟨by decide +kernel, rfl⟩
theorem djdk_52_5_53 : Dc jdk_52_method_5_code 53 (.getstatic 63) 3 56 := ⟨by decide +kernel, rfl⟩
theorem djdk_52_5_56 : Dc jdk_52_method_5_code 56 (.ishl) 1 57 := ⟨by decide +kernel, rfl⟩
theorem djdk_52_5_57 : Dc jdk_52_method_5_code 57 (.ior) 1 58 := ⟨by decide +kernel, rfl⟩
theorem djdk_52_5_58 : Dc jdk_52_method_5_code 58 (.i2c) 1 59 := ⟨by decide +kernel, rfl⟩
theorem djdk_52_5_59 : Dc jdk_52_method_5_code 59 (.ireturn) 1 60 := ⟨by decide +kernel, rfl⟩
theorem djdk_52_6_0 : Dc jdk_52_method_6_code 0 (.aload_n 0) 1 1 := ⟨by decide +kernel, rfl⟩
theorem djdk_52_6_1 : Dc jdk_52_method_6_code 1 (.arraylength) 1 2 := ⟨by decide +kernel, rfl⟩
theorem djdk_52_6_2 : Dc jdk_52_method_6_code 2 (.iconst 1) 1 3 := ⟨by decide +kernel, rfl⟩
theorem djdk_52_6_3 : Dc jdk_52_method_6_code 3 (.ishr) 1 4 := ⟨by decide +kernel, rfl⟩
theorem djdk_52_6_4 : Dc jdk_52_method_6_code 4 (.ireturn) 1 5 := ⟨by decide +kernel, rfl⟩
theorem djdk_52_83_0 : Dc jdk_52_method_83_code 0 (.iload_n 1) 1 1 := ⟨by decide +kernel, rfl⟩
theorem djdk_52_83_1 : Dc jdk_52_method_83_code 1 (.aload_n 0) 1 2 := ⟨by decide +kernel, rfl⟩
theorem djdk_52_83_2 : Dc jdk_52_method_83_code 2 (.invokestatic 67) 3 5 := ⟨by decide +kernel, rfl⟩
theorem djdk_52_83_5 : Dc jdk_52_method_83_code 5 (.aload_n 0) 1 6 := ⟨by decide +kernel, rfl⟩
theorem djdk_52_83_6 : Dc jdk_52_method_83_code 6 (.iload_n 1) 1 7 := ⟨by decide +kernel, rfl⟩
theorem djdk_52_83_7 : Dc jdk_52_method_83_code 7 (.invokestatic 71) 3 10 := ⟨by decide +kernel, rfl⟩
theorem djdk_52_83_10 : Dc jdk_52_method_83_code 10 (.ireturn) 1 11 := ⟨by decide +kernel, rfl⟩
theorem djdk_52_91_0 : Dc jdk_52_method_91_code 0 (.iload_n 0) 1 1 := ⟨by decide +kernel, rfl⟩
theorem djdk_52_91_1 : Dc jdk_52_method_91_code 1 (.aload_n 1) 1 2 := ⟨by decide +kernel, rfl⟩
theorem djdk_52_91_2 : Dc jdk_52_method_91_code 2 (.invokestatic 48) 3 5 := ⟨by decide +kernel, rfl⟩
theorem djdk_52_91_5 : Dc jdk_52_method_91_code 5 (.invokestatic 414) 3 8 := ⟨by decide +kernel, rfl⟩
theorem djdk_52_91_8 : Dc jdk_52_method_91_code 8 (.return_) 1 9 := ⟨by decide +kernel, rfl⟩
theorem djdk_89_16_0 : Dc jdk_89_method_16_code 0 (.iload_n 0) 1 1 := ⟨by decide +kernel, rfl⟩
theorem djdk_89_16_1 : Dc jdk_89_method_16_code 1 (.ldc 75) 2 3 := ⟨by decide +kernel, rfl⟩
theorem djdk_89_16_3 : Bc jdk_89_method_16_code 3 (.if_icmp .lt) 16 6 := ⟨13, by decide +kernel, by decide, by decide, rfl⟩
theorem djdk_89_16_6 : Dc jdk_89_method_16_code 6 (.iload_n 0) 1 7 := ⟨by decide +kernel, rfl⟩
theorem djdk_89_16_7 : Dc jdk_89_method_16_code 7 (.ldc 77) 2 9 := ⟨by decide +kernel, rfl⟩
theorem djdk_89_16_9 : Bc jdk_89_method_16_code 9 (.if_icmp .ge) 16 12 := ⟨7, by decide +kernel, by decide, by decide, rfl⟩
theorem djdk_89_16_12 : Dc jdk_89_method_16_code 12 (.iconst 1) 1 13 := ⟨by decide +kernel, rfl⟩
theorem djdk_89_16_13 : Bc jdk_89_method_16_code 13 (.goto) 17 16 := ⟨4, by decide +kernel, by decide, by decide, rfl⟩
theorem djdk_89_16_16 : Dc jdk_89_method_16_code 16 (.iconst 0) 1 17 := ⟨by decide +kernel, rfl⟩
theorem djdk_89_16_17 : Dc jdk_89_method_16_code 17 (.ireturn) 1 18 := ⟨by decide +kernel, rfl⟩
theorem d3_0 : Dc method_3_code 0 (.iload_n 0) 1 1 := ⟨by decide +kernel, rfl⟩
theorem d3_1 : Bc method_3_code 1 (.ifCond .ne) 15 4 := ⟨14, by decide +kernel, by decide, by decide, rfl⟩
theorem d3_4 : Dc method_3_code 4 (.new 28) 3 7 := ⟨by decide +kernel, rfl⟩
theorem d3_7 : Dc method_3_code 7 (.dup) 1 8 := ⟨by decide +kernel, rfl⟩
theorem d3_8 : Dc method_3_code 8 (.iconst 0) 1 9 := ⟨by decide +kernel, rfl⟩
theorem d3_9 : Dc method_3_code 9 (.newarray .char) 2 11 := ⟨by decide +kernel, rfl⟩
theorem d3_11 : Dc method_3_code 11 (.invokespecial 30) 3 14 := ⟨by decide +kernel, rfl⟩
theorem d3_14 : Dc method_3_code 14 (.areturn) 1 15 := ⟨by decide +kernel, rfl⟩
theorem d3_15 : Dc method_3_code 15 (.iload_n 0) 1 16 := ⟨by decide +kernel, rfl⟩
theorem d3_16 : Dc method_3_code 16 (.iconst 1) 1 17 := ⟨by decide +kernel, rfl⟩
theorem d3_17 : Bc method_3_code 17 (.if_icmp .ne) 35 20 := ⟨18, by decide +kernel, by decide, by decide, rfl⟩
theorem d3_20 : Dc method_3_code 20 (.new 28) 3 23 := ⟨by decide +kernel, rfl⟩
theorem d3_23 : Dc method_3_code 23 (.dup) 1 24 := ⟨by decide +kernel, rfl⟩
theorem d3_24 : Dc method_3_code 24 (.iconst 1) 1 25 := ⟨by decide +kernel, rfl⟩
theorem d3_25 : Dc method_3_code 25 (.newarray .char) 2 27 := ⟨by decide +kernel, rfl⟩
theorem d3_27 : Dc method_3_code 27 (.dup) 1 28 := ⟨by decide +kernel, rfl⟩
theorem d3_28 : Dc method_3_code 28 (.iconst 0) 1 29 := ⟨by decide +kernel, rfl⟩
theorem d3_29 : Dc method_3_code 29 (.iload_n 1) 1 30 := ⟨by decide +kernel, rfl⟩
theorem d3_30 : Dc method_3_code 30 (.castore) 1 31 := ⟨by decide +kernel, rfl⟩
theorem d3_31 : Dc method_3_code 31 (.invokespecial 30) 3 34 := ⟨by decide +kernel, rfl⟩
theorem d3_34 : Dc method_3_code 34 (.areturn) 1 35 := ⟨by decide +kernel, rfl⟩
theorem d3_35 : Dc method_3_code 35 (.iload_n 0) 1 36 := ⟨by decide +kernel, rfl⟩
theorem d3_36 : Dc method_3_code 36 (.iconst 2) 1 37 := ⟨by decide +kernel, rfl⟩
theorem d3_37 : Bc method_3_code 37 (.if_icmp .ne) 59 40 := ⟨22, by decide +kernel, by decide, by decide, rfl⟩
theorem d3_40 : Dc method_3_code 40 (.new 28) 3 43 := ⟨by decide +kernel, rfl⟩
theorem d3_43 : Dc method_3_code 43 (.dup) 1 44 := ⟨by decide +kernel, rfl⟩
theorem d3_44 : Dc method_3_code 44 (.iconst 2) 1 45 := ⟨by decide +kernel, rfl⟩
theorem d3_45 : Dc method_3_code 45 (.newarray .char) 2 47 := ⟨by decide +kernel, rfl⟩
theorem d3_47 : Dc method_3_code 47 (.dup) 1 48 := ⟨by decide +kernel, rfl⟩
theorem d3_48 : Dc method_3_code 48 (.iconst 0) 1 49 := ⟨by decide +kernel, rfl⟩
theorem d3_49 : Dc method_3_code 49 (.iload_n 1) 1 50 := ⟨by decide +kernel, rfl⟩
theorem d3_50 : Dc method_3_code 50 (.castore) 1 51 := ⟨by decide +kernel, rfl⟩
theorem d3_51 : Dc method_3_code 51 (.dup) 1 52 := ⟨by decide +kernel, rfl⟩
theorem d3_52 : Dc method_3_code 52 (.iconst 1) 1 53 := ⟨by decide +kernel, rfl⟩
theorem d3_53 : Dc method_3_code 53 (.iload_n 2) 1 54 := ⟨by decide +kernel, rfl⟩
theorem d3_54 : Dc method_3_code 54 (.castore) 1 55 := ⟨by decide +kernel, rfl⟩
theorem d3_55 : Dc method_3_code 55 (.invokespecial 30) 3 58 := ⟨by decide +kernel, rfl⟩
theorem d3_58 : Dc method_3_code 58 (.areturn) 1 59 := ⟨by decide +kernel, rfl⟩
theorem d3_59 : Dc method_3_code 59 (.new 28) 3 62 := ⟨by decide +kernel, rfl⟩
theorem d3_62 : Dc method_3_code 62 (.dup) 1 63 := ⟨by decide +kernel, rfl⟩
theorem d3_63 : Dc method_3_code 63 (.iconst 3) 1 64 := ⟨by decide +kernel, rfl⟩
theorem d3_64 : Dc method_3_code 64 (.newarray .char) 2 66 := ⟨by decide +kernel, rfl⟩
theorem d3_66 : Dc method_3_code 66 (.dup) 1 67 := ⟨by decide +kernel, rfl⟩
theorem d3_67 : Dc method_3_code 67 (.iconst 0) 1 68 := ⟨by decide +kernel, rfl⟩
theorem d3_68 : Dc method_3_code 68 (.iload_n 1) 1 69 := ⟨by decide +kernel, rfl⟩
theorem d3_69 : Dc method_3_code 69 (.castore) 1 70 := ⟨by decide +kernel, rfl⟩
theorem d3_70 : Dc method_3_code 70 (.dup) 1 71 := ⟨by decide +kernel, rfl⟩
theorem d3_71 : Dc method_3_code 71 (.iconst 1) 1 72 := ⟨by decide +kernel, rfl⟩
theorem d3_72 : Dc method_3_code 72 (.iload_n 2) 1 73 := ⟨by decide +kernel, rfl⟩
theorem d3_73 : Dc method_3_code 73 (.castore) 1 74 := ⟨by decide +kernel, rfl⟩
theorem d3_74 : Dc method_3_code 74 (.dup) 1 75 := ⟨by decide +kernel, rfl⟩
theorem d3_75 : Dc method_3_code 75 (.iconst 2) 1 76 := ⟨by decide +kernel, rfl⟩
theorem d3_76 : Dc method_3_code 76 (.iload_n 3) 1 77 := ⟨by decide +kernel, rfl⟩
theorem d3_77 : Dc method_3_code 77 (.castore) 1 78 := ⟨by decide +kernel, rfl⟩
theorem d3_78 : Dc method_3_code 78 (.invokespecial 30) 3 81 := ⟨by decide +kernel, rfl⟩
theorem d3_81 : Dc method_3_code 81 (.areturn) 1 82 := ⟨by decide +kernel, rfl⟩
theorem d4_0 : Dc method_4_code 0 (.iload_n 0) 1 1 := ⟨by decide +kernel, rfl⟩
theorem d4_1 : Bc method_4_code 1 (.ifCond .le) 8 4 := ⟨7, by decide +kernel, by decide, by decide, rfl⟩
theorem d4_4 : Dc method_4_code 4 (.iconst 1) 1 5 := ⟨by decide +kernel, rfl⟩
theorem d4_5 : Bc method_4_code 5 (.goto) 17 8 := ⟨12, by decide +kernel, by decide, by decide, rfl⟩
theorem d4_8 : Dc method_4_code 8 (.iload_n 0) 1 9 := ⟨by decide +kernel, rfl⟩
theorem d4_9 : Bc method_4_code 9 (.ifCond .ge) 16 12 := ⟨7, by decide +kernel, by decide, by decide, rfl⟩
theorem d4_12 : Dc method_4_code 12 (.iconst (-1)) 1 13 := ⟨by decide +kernel, rfl⟩
theorem d4_13 : Bc method_4_code 13 (.goto) 17 16 := ⟨4, by decide +kernel, by decide, by decide, rfl⟩
theorem d4_16 : Dc method_4_code 16 (.iconst 0) 1 17 := ⟨by decide +kernel, rfl⟩
theorem d4_17 : Dc method_4_code 17 (.ireturn) 1 18 := ⟨by decide +kernel, rfl⟩
theorem d5_0 : Dc method_5_code 0 (.iload_n 0) 1 1 := ⟨by decide +kernel, rfl⟩
theorem d5_1 : Dc method_5_code 1 (.ldc 33) 2 3 := ⟨by decide +kernel, rfl⟩
theorem d5_3 : Bc method_5_code 3 (.if_icmp .ge) 8 6 := ⟨5, by decide +kernel, by decide, by decide, rfl⟩
theorem d5_6 : Dc method_5_code 6 (.iload_n 0) 1 7 := ⟨by decide +kernel, rfl⟩
theorem d5_7 : Dc method_5_code 7 (.ireturn) 1 8 := ⟨by decide +kernel, rfl⟩
theorem d5_8 : Dc method_5_code 8 (.iload_n 0) 1 9 := ⟨by decide +kernel, rfl⟩
theorem d5_9 : Dc method_5_code 9 (.ldc 34) 2 11 := ⟨by decide +kernel, rfl⟩
theorem d5_11 : Bc method_5_code 11 (.if_icmp .ge) 20 14 := ⟨9, by decide +kernel, by decide, by decide, rfl⟩
theorem d5_14 : Dc method_5_code 14 (.iload_n 0) 1 15 := ⟨by decide +kernel, rfl⟩
theorem d5_15 : Dc method_5_code 15 (.sipush 8192) 3 18 := ⟨by decide +kernel, rfl⟩
theorem d5_18 : Dc method_5_code 18 (.iadd) 1 19 := ⟨by decide +kernel, rfl⟩
theorem d5_19 : Dc method_5_code 19 (.ireturn) 1 20 := ⟨by decide +kernel, rfl⟩
theorem d5_20 : Dc method_5_code 20 (.iload_n 0) 1 21 := ⟨by decide +kernel, rfl⟩
theorem d5_21 : Dc method_5_code 21 (.sipush 2048) 3 24 := ⟨by decide +kernel, rfl⟩
theorem d5_24 : Dc method_5_code 24 (.isub) 1 25 := ⟨by decide +kernel, rfl⟩
theorem d5_25 : Dc method_5_code 25 (.ireturn) 1 26 := ⟨by decide +kernel, rfl⟩
theorem d6_0 : Dc method_6_code 0 (.iload_n 0) 1 1 := ⟨by decide +kernel, rfl⟩
theorem d6_1 : Dc method_6_code 1 (.iload 4) 2 3 := ⟨by decide +kernel, rfl⟩
theorem d6_3 : Dc method_6_code 3 (.invokestatic 35) 3 6 := ⟨by decide +kernel, rfl⟩
theorem d6_6 : Dc method_6_code 6 (.istore 8) 2 8 := ⟨by decide +kernel, rfl⟩
theorem d6_8 : Dc method_6_code 8 (.iload 8) 2 10 := ⟨by decide +kernel, rfl⟩
theorem d6_10 : Dc method_6_code 10 (.iconst 1) 1 11 := ⟨by decide +kernel, rfl⟩
theorem d6_11 : Bc method_6_code 11 (.if_icmp .lt) 38 14 := ⟨27, by decide +kernel, by decide, by decide, rfl⟩
theorem d6_14 : Dc method_6_code 14 (.iload_n 1) 1 15 := ⟨by decide +kernel, rfl⟩
theorem d6_15 : Dc method_6_code 15 (.iload 5) 2 17 := ⟨by decide +kernel, rfl⟩
theorem d6_17 : Bc method_6_code 17 (.if_icmp .eq) 38 20 := ⟨21, by decide +kernel, by decide, by decide, rfl⟩
theorem d6_20 : Dc method_6_code 20 (.iload_n 1) 1 21 := ⟨by decide +kernel, rfl⟩
theorem d6_21 : Dc method_6_code 21 (.invokestatic 41) 3 24 := ⟨by decide +kernel, rfl⟩
theorem d6_24 : Dc method_6_code 24 (.iload 5) 2 26 := ⟨by decide +kernel, rfl⟩
theorem d6_26 : Dc method_6_code 26 (.invokestatic 41) 3 29 := ⟨by decide +kernel, rfl⟩
theorem d6_29 : Bc method_6_code 29 (.if_icmp .ge) 36 32 := ⟨7, by decide +kernel, by decide, by decide, rfl⟩
theorem d6_32 : Dc method_6_code 32 (.iconst (-1)) 1 33 := ⟨by decide +kernel, rfl⟩
theorem d6_33 : Bc method_6_code 33 (.goto) 37 36 := ⟨4, by decide +kernel, by decide, by decide, rfl⟩
theorem d6_36 : Dc method_6_code 36 (.iconst 1) 1 37 := ⟨by decide +kernel, rfl⟩
theorem d6_37 : Dc method_6_code 37 (.ireturn) 1 38 := ⟨by decide +kernel, rfl⟩
theorem d6_38 : Dc method_6_code 38 (.iload 8) 2 40 := ⟨by decide +kernel, rfl⟩
theorem d6_40 : Dc method_6_code 40 (.iconst 2) 1 41 := ⟨by decide +kernel, rfl⟩
theorem d6_41 : Bc method_6_code 41 (.if_icmp .lt) 68 44 := ⟨27, by decide +kernel, by decide, by decide, rfl⟩
theorem d6_44 : Dc method_6_code 44 (.iload_n 2) 1 45 := ⟨by decide +kernel, rfl⟩
theorem d6_45 : Dc method_6_code 45 (.iload 6) 2 47 := ⟨by decide +kernel, rfl⟩
theorem d6_47 : Bc method_6_code 47 (.if_icmp .eq) 68 50 := ⟨21, by decide +kernel, by decide, by decide, rfl⟩
theorem d6_50 : Dc method_6_code 50 (.iload_n 2) 1 51 := ⟨by decide +kernel, rfl⟩
theorem d6_51 : Dc method_6_code 51 (.invokestatic 41) 3 54 := ⟨by decide +kernel, rfl⟩
theorem d6_54 : Dc method_6_code 54 (.iload 6) 2 56 := ⟨by decide +kernel, rfl⟩
theorem d6_56 : Dc method_6_code 56 (.invokestatic 41) 3 59 := ⟨by decide +kernel, rfl⟩
theorem d6_59 : Bc method_6_code 59 (.if_icmp .ge) 66 62 := ⟨7, by decide +kernel, by decide, by decide, rfl⟩
theorem d6_62 : Dc method_6_code 62 (.iconst (-1)) 1 63 := ⟨by decide +kernel, rfl⟩
theorem d6_63 : Bc method_6_code 63 (.goto) 67 66 := ⟨4, by decide +kernel, by decide, by decide, rfl⟩
theorem d6_66 : Dc method_6_code 66 (.iconst 1) 1 67 := ⟨by decide +kernel, rfl⟩
theorem d6_67 : Dc method_6_code 67 (.ireturn) 1 68 := ⟨by decide +kernel, rfl⟩
theorem d6_68 : Dc method_6_code 68 (.iload 8) 2 70 := ⟨by decide +kernel, rfl⟩
theorem d6_70 : Dc method_6_code 70 (.iconst 3) 1 71 := ⟨by decide +kernel, rfl⟩
theorem d6_71 : Bc method_6_code 71 (.if_icmp .lt) 98 74 := ⟨27, by decide +kernel, by decide, by decide, rfl⟩
theorem d6_74 : Dc method_6_code 74 (.iload_n 3) 1 75 := ⟨by decide +kernel, rfl⟩
theorem d6_75 : Dc method_6_code 75 (.iload 7) 2 77 := ⟨by decide +kernel, rfl⟩
theorem d6_77 : Bc method_6_code 77 (.if_icmp .eq) 98 80 := ⟨21, by decide +kernel, by decide, by decide, rfl⟩
theorem d6_80 : Dc method_6_code 80 (.iload_n 3) 1 81 := ⟨by decide +kernel, rfl⟩
theorem d6_81 : Dc method_6_code 81 (.invokestatic 41) 3 84 := ⟨by decide +kernel, rfl⟩
theorem d6_84 : Dc method_6_code 84 (.iload 7) 2 86 := ⟨by decide +kernel, rfl⟩
theorem d6_86 : Dc method_6_code 86 (.invokestatic 41) 3 89 := ⟨by decide +kernel, rfl⟩
theorem d6_89 : Bc method_6_code 89 (.if_icmp .ge) 96 92 := ⟨7, by decide +kernel, by decide, by decide, rfl⟩
theorem d6_92 : Dc method_6_code 92 (.iconst (-1)) 1 93 := ⟨by decide +kernel, rfl⟩
theorem d6_93 : Bc method_6_code 93 (.goto) 97 96 := ⟨4, by decide +kernel, by decide, by decide, rfl⟩
theorem d6_96 : Dc method_6_code 96 (.iconst 1) 1 97 := ⟨by decide +kernel, rfl⟩
theorem d6_97 : Dc method_6_code 97 (.ireturn) 1 98 := ⟨by decide +kernel, rfl⟩
theorem d6_98 : Dc method_6_code 98 (.iload_n 0) 1 99 := ⟨by decide +kernel, rfl⟩
theorem d6_99 : Dc method_6_code 99 (.iload 4) 2 101 := ⟨by decide +kernel, rfl⟩
theorem d6_101 : Bc method_6_code 101 (.if_icmp .ge) 106 104 := ⟨5, by decide +kernel, by decide, by decide, rfl⟩
theorem d6_104 : Dc method_6_code 104 (.iconst (-1)) 1 105 := ⟨by decide +kernel, rfl⟩
theorem d6_105 : Dc method_6_code 105 (.ireturn) 1 106 := ⟨by decide +kernel, rfl⟩
theorem d6_106 : Dc method_6_code 106 (.iload_n 0) 1 107 := ⟨by decide +kernel, rfl⟩
theorem d6_107 : Dc method_6_code 107 (.iload 4) 2 109 := ⟨by decide +kernel, rfl⟩
theorem d6_109 : Bc method_6_code 109 (.if_icmp .le) 114 112 := ⟨5, by decide +kernel, by decide, by decide, rfl⟩
theorem d6_112 : Dc method_6_code 112 (.iconst 1) 1 113 := ⟨by decide +kernel, rfl⟩
theorem d6_113 : Dc method_6_code 113 (.ireturn) 1 114 := ⟨by decide +kernel, rfl⟩
theorem d6_114 : Dc method_6_code 114 (.iconst 0) 1 115 := ⟨by decide +kernel, rfl⟩
theorem d6_115 : Dc method_6_code 115 (.ireturn) 1 116 := ⟨by decide +kernel, rfl⟩
theorem dprog_41_13_0 : Dc prog_41_method_13_code 0 (.aload_n 0) 1 1 := ⟨by decide +kernel, rfl⟩
theorem dprog_41_13_1 : Dc prog_41_method_13_code 1 (.invokevirtual 157) 3 4 := ⟨by decide +kernel, rfl⟩
theorem dprog_41_13_4 : Dc prog_41_method_13_code 4 (.aload_n 1) 1 5 := ⟨by decide +kernel, rfl⟩
theorem dprog_41_13_5 : Dc prog_41_method_13_code 5 (.invokevirtual 157) 3 8 := ⟨by decide +kernel, rfl⟩
theorem dprog_41_13_8 : Dc prog_41_method_13_code 8 (.invokestatic 219) 3 11 := ⟨by decide +kernel, rfl⟩
theorem dprog_41_13_11 : Dc prog_41_method_13_code 11 (.istore_n 2) 1 12 := ⟨by decide +kernel, rfl⟩
theorem dprog_41_13_12 : Dc prog_41_method_13_code 12 (.iconst 0) 1 13 := ⟨by decide +kernel, rfl⟩
theorem dprog_41_13_13 : Dc prog_41_method_13_code 13 (.istore_n 3) 1 14 := ⟨by decide +kernel, rfl⟩
theorem dprog_41_13_14 : Dc prog_41_method_13_code 14 (.iload_n 3) 1 15 := ⟨by decide +kernel, rfl⟩
theorem dprog_41_13_15 : Dc prog_41_method_13_code 15 (.iload_n 2) 1 16 := ⟨by decide +kernel, rfl⟩
theorem dprog_41_13_16 : Bc prog_41_method_13_code 16 (.if_icmp .ge) 60 19 := ⟨44, by decide +kernel, by decide, by decide, rfl⟩
theorem dprog_41_13_19 : Dc prog_41_method_13_code 19 (.aload_n 0) 1 20 := ⟨by decide +kernel, rfl⟩
theorem dprog_41_13_20 : Dc prog_41_method_13_code 20 (.iload_n 3) 1 21 := ⟨by decide +kernel, rfl⟩
theorem dprog_41_13_21 : Dc prog_41_method_13_code 21 (.invokevirtual 225) 3 24 := ⟨by decide +kernel, rfl⟩
theorem dprog_41_13_24 : Dc prog_41_method_13_code 24 (.istore 4) 2 26 := ⟨by decide +kernel, rfl⟩
theorem dprog_41_13_26 : Dc prog_41_method_13_code 26 (.aload_n 1) 1 27 := ⟨by decide +kernel, rfl⟩
theorem dprog_41_13_27 : Dc prog_41_method_13_code 27 (.iload_n 3) 1 28 := ⟨by decide +kernel, rfl⟩
theorem dprog_41_13_28 : Dc prog_41_method_13_code 28 (.invokevirtual 225) 3 31 := ⟨by decide +kernel, rfl⟩
theorem dprog_41_13_31 : Dc prog_41_method_13_code 31 (.istore 5) 2 33 := ⟨by decide +kernel, rfl⟩
theorem dprog_41_13_33 : Dc prog_41_method_13_code 33 (.iload 4) 2 35 := ⟨by decide +kernel, rfl⟩
theorem dprog_41_13_35 : Dc prog_41_method_13_code 35 (.iload 5) 2 37 := ⟨by decide +kernel, rfl⟩
theorem dprog_41_13_37 : Bc prog_41_method_13_code 37 (.if_icmp .eq) 54 40 := ⟨17, by decide +kernel, by decide, by decide, rfl⟩
theorem dprog_41_13_40 : Dc prog_41_method_13_code 40 (.iload 4) 2 42 := ⟨by decide +kernel, rfl⟩
theorem dprog_41_13_42 : Dc prog_41_method_13_code 42 (.invokestatic 229) 3 45 := ⟨by decide +kernel, rfl⟩
theorem dprog_41_13_45 : Dc prog_41_method_13_code 45 (.iload 5) 2 47 := ⟨by decide +kernel, rfl⟩
theorem dprog_41_13_47 : Dc prog_41_method_13_code 47 (.invokestatic 229) 3 50 := ⟨by decide +kernel, rfl⟩
theorem dprog_41_13_50 : Dc prog_41_method_13_code 50 (.invokestatic 233) 3 53 := ⟨by decide +kernel, rfl⟩
theorem dprog_41_13_53 : Dc prog_41_method_13_code 53 (.ireturn) 1 54 := ⟨by decide +kernel, rfl⟩
theorem dprog_41_13_54 : Dc prog_41_method_13_code 54 (.iinc 3 1) 3 57 := ⟨by decide +kernel, rfl⟩
theorem dprog_41_13_57 : Bc prog_41_method_13_code 57 (.goto) 14 60 := ⟨(-43), by decide +kernel, by decide, by decide, rfl⟩
theorem dprog_41_13_60 : Dc prog_41_method_13_code 60 (.aload_n 0) 1 61 := ⟨by decide +kernel, rfl⟩
theorem dprog_41_13_61 : Dc prog_41_method_13_code 61 (.invokevirtual 157) 3 64 := ⟨by decide +kernel, rfl⟩
theorem dprog_41_13_64 : Dc prog_41_method_13_code 64 (.aload_n 1) 1 65 := ⟨by decide +kernel, rfl⟩
theorem dprog_41_13_65 : Dc prog_41_method_13_code 65 (.invokevirtual 157) 3 68 := ⟨by decide +kernel, rfl⟩
theorem dprog_41_13_68 : Dc prog_41_method_13_code 68 (.invokestatic 233) 3 71 := ⟨by decide +kernel, rfl⟩
theorem dprog_41_13_71 : Dc prog_41_method_13_code 71 (.ireturn) 1 72 := ⟨by decide +kernel, rfl⟩
theorem dprog_41_14_0 : Dc prog_41_method_14_code 0 (.iload_n 0) 1 1 := ⟨by decide +kernel, rfl⟩
theorem dprog_41_14_1 : Dc prog_41_method_14_code 1 (.invokestatic 236) 3 4 := ⟨by decide +kernel, rfl⟩
theorem dprog_41_14_4 : Bc prog_41_method_14_code 4 (.ifCond .eq) 14 7 := ⟨10, by decide +kernel, by decide, by decide, rfl⟩
theorem dprog_41_14_7 : Dc prog_41_method_14_code 7 (.iload_n 0) 1 8 := ⟨by decide +kernel, rfl⟩
theorem dprog_41_14_8 : Dc prog_41_method_14_code 8 (.ldc 242) 2 10 := ⟨by decide +kernel, rfl⟩
theorem dprog_41_14_10 : Dc prog_41_method_14_code 10 (.iadd) 1 11 := ⟨by decide +kernel, rfl⟩
theorem dprog_41_14_11 : Bc prog_41_method_14_code 11 (.goto) 15 14 := ⟨4, by decide +kernel, by decide, by decide, rfl⟩
theorem dprog_41_14_14 : Dc prog_41_method_14_code 14 (.iload_n 0) 1 15 := ⟨by decide +kernel, rfl⟩
theorem dprog_41_14_15 : Dc prog_41_method_14_code 15 (.ireturn) 1 16 := ⟨by decide +kernel, rfl⟩
theorem pd_0 : parseMethodDescriptor "(C)Z" = some ⟨[.char], some .boolean⟩ := by decide +kernel
theorem pd_1 : parseMethodDescriptor "(II)I" = some ⟨[.int, .int], some .int⟩ := by decide +kernel
theorem pd_2 : parseMethodDescriptor "(C)I" = some ⟨[.char], some .int⟩ := by decide +kernel
theorem pd_3 : parseMethodDescriptor "([CIILjava/lang/Void;)V" = some ⟨[(.array .char), .int, .int, (.object "java/lang/Void")], none⟩ := by decide +kernel
theorem pd_4 : parseMethodDescriptor "([C)V" = some ⟨[(.array .char)], none⟩ := by decide +kernel
theorem pd_5 : parseMethodDescriptor "([CI[BII)I" = some ⟨[(.array .char), .int, (.array .byte), .int, .int], some .int⟩ := by decide +kernel
theorem pd_6 : parseMethodDescriptor "([CII)[B" = some ⟨[(.array .char), .int, .int], some (.array .byte)⟩ := by decide +kernel
theorem pd_7 : parseMethodDescriptor "([BI)B" = some ⟨[(.array .byte), .int], some .byte⟩ := by decide +kernel
theorem pd_8 : parseMethodDescriptor "(I)I" = some ⟨[.int], some .int⟩ := by decide +kernel
theorem pd_9 : parseMethodDescriptor "(I)[B" = some ⟨[.int], some (.array .byte)⟩ := by decide +kernel
theorem pd_10 : parseMethodDescriptor "([BII)V" = some ⟨[(.array .byte), .int, .int], none⟩ := by decide +kernel
theorem pd_11 : parseMethodDescriptor "([BI)C" = some ⟨[(.array .byte), .int], some .char⟩ := by decide +kernel
theorem pd_12 : parseMethodDescriptor "()B" = some ⟨[], some .byte⟩ := by decide +kernel
theorem pd_13 : parseMethodDescriptor "()I" = some ⟨[], some .int⟩ := by decide +kernel
theorem pd_14 : parseMethodDescriptor "(IILjava/util/function/BiFunction;)I" = some ⟨[.int, .int, (.object "java/util/function/BiFunction")], some .int⟩ := by decide +kernel
theorem pd_15 : parseMethodDescriptor "(II)V" = some ⟨[.int, .int], none⟩ := by decide +kernel
theorem pd_16 : parseMethodDescriptor "([B)I" = some ⟨[(.array .byte)], some .int⟩ := by decide +kernel
theorem pd_17 : parseMethodDescriptor "(I[B)V" = some ⟨[.int, (.array .byte)], none⟩ := by decide +kernel
theorem pd_18 : parseMethodDescriptor "()Z" = some ⟨[], some .boolean⟩ := by decide +kernel
theorem pd_19 : parseMethodDescriptor "(I)C" = some ⟨[.int], some .char⟩ := by decide +kernel
theorem pd_20 : parseMethodDescriptor "(ICCC)Ljava/lang/String;" = some ⟨[.int, .char, .char, .char], some (.object "java/lang/String")⟩ := by decide +kernel
theorem pd_21 : parseMethodDescriptor "(Ljava/lang/String;Ljava/lang/String;)I" = some ⟨[(.object "java/lang/String"), (.object "java/lang/String")], some .int⟩ := by decide +kernel
theorem pd_22 : parseMethodDescriptor "(ICCCICCC)I" = some ⟨[.int, .char, .char, .char, .int, .char, .char, .char], some .int⟩ := by decide +kernel
theorem pn_0 : plainName "java/lang/Integer" = true := by first | (simp [plainName, overriddenIn]; done) | decide +kernel
theorem pn_1 : plainName "com/example/whole_session/wholesession/RunCompareUtf8PinLaw" = true := by first | (simp [plainName, overriddenIn]; done) | decide +kernel
theorem pn_2 : plainName "java/lang/Character" = true := by first | (simp [plainName, overriddenIn]; done) | decide +kernel
theorem pn_3 : plainName "com/example/whole_session/wholesession/Run" = true := by first | (simp [plainName, overriddenIn]; done) | decide +kernel
theorem pn_4 : plainName "java/lang/String" = true := by first | (simp [plainName, overriddenIn]; done) | decide +kernel
theorem pn_5 : plainName "java/lang/StringUTF16" = true := by first | (simp [plainName, overriddenIn]; done) | decide +kernel
theorem pn_6 : plainName "jdk/internal/util/Preconditions" = true := by first | (simp [plainName, overriddenIn]; done) | decide +kernel
theorem pn_7 : plainName "java/lang/StringLatin1" = true := by first | (simp [plainName, overriddenIn]; done) | decide +kernel
set_option maxRecDepth 65536 in
set_option maxHeartbeats 40000000 in
theorem m_min {l : Launch} {Z : State} {a0 : Array Value} {n0 : Nat} (hw : ∀ d ∈ tables_1, d.before a0 Z = true) {h0 : Heap} {r x0 y0 : Int32} (hr : own_minI x0 y0 = r) :
    Does l Z n0 ⟨"java/lang/Math", "min", "(II)I"⟩ jdk_29_method_69_code 2 (some .int) [] { frames := 0, cells := 0, slots := 0, locals := 0 } #[(.int x0), (.int y0)] h0 (fun v h => v = some (.int r) ∧ h0 = h) := by
  refine Does.start (Jvm.Free.JP.mathPlain rfl (by decide +kernel)) ?_
  intro p e s m below meth c T X
  replace X : Sd Z n0 0 jdk_29_method_69_code 2 "java/lang/Math" "min" (some .int) h0 p l e { frames := 0, cells := 0, slots := 0, locals := 0 } s m #[(.int x0), (.int y0)] below meth c T [] 0 0 := X
  refine Wp.cast (g' := mkF m 0 #[.val (.int x0), .val (.int y0)] []) (by first | (simp [entryFrame, mkF, argsToLocals, Value.category, maxLocals]; done) | rfl) ?_
  refine w_iloadN X djdk_29_69_0 rfl ?_
  refine w_iloadN X djdk_29_69_1 rfl ?_
  refine w_icmpgt X djdk_29_69_2 (fun (hc2 : y0 < x0) => ?_) (fun (hc2 : ¬ y0 < x0) => ?_)
  · refine w_iloadN X djdk_29_69_9 rfl ?_
    exact w_retI X djdk_29_69_10 ⟨by rw [← hr]; unfold own_minI; simp only [*, if_true, if_false], rfl⟩ (by decide) (by decide)
  · refine w_iloadN X djdk_29_69_5 rfl ?_
    refine w_goto X djdk_29_69_6 ?_
    exact w_retI X djdk_29_69_10 ⟨by rw [← hr]; unfold own_minI; simp only [*, if_true, if_false], rfl⟩ (by decide) (by decide)
set_option maxRecDepth 65536 in
set_option maxHeartbeats 40000000 in
theorem m_ic {l : Launch} {Z : State} {a0 : Array Value} {n0 : Nat} (hw : ∀ d ∈ tables_1, d.before a0 Z = true) {h0 : Heap} {x0 y0 : Int32}  :
    Does l Z n0 ⟨"java/lang/Integer", "compare", "(II)I"⟩ jdk_33_method_40_code 2 (some .int) [] { frames := 0, cells := 0, slots := 0, locals := 0 } #[(.int x0), (.int y0)] h0 (fun v h => v = some (.int (own_icmp x0 y0)) ∧ h0 = h) := by
  refine Does.start (plainFor_of_name pn_0) ?_
  intro p e s m below meth c T X
  replace X : Sd Z n0 0 jdk_33_method_40_code 2 "java/lang/Integer" "compare" (some .int) h0 p l e { frames := 0, cells := 0, slots := 0, locals := 0 } s m #[(.int x0), (.int y0)] below meth c T [] 0 0 := X
  refine Wp.cast (g' := mkF m 0 #[.val (.int x0), .val (.int y0)] []) (by first | (simp [entryFrame, mkF, argsToLocals, Value.category, maxLocals]; done) | rfl) ?_
  refine w_iloadN X djdk_33_40_0 rfl ?_
  refine w_iloadN X djdk_33_40_1 rfl ?_
  refine w_icmpge X djdk_33_40_2 (fun (hc2 : ¬ x0 < y0) => ?_) (fun (hc2 : x0 < y0) => ?_)
  · refine w_iloadN X djdk_33_40_9 rfl ?_
    refine w_iloadN X djdk_33_40_10 rfl ?_
    refine w_icmpne X djdk_33_40_11 (fun (hc11 : ¬ x0 = y0) => ?_) (fun (hc11 : x0 = y0) => ?_)
    · refine w_iconst X (1 : Int32) djdk_33_40_18 rfl ?_
      exact w_retI X djdk_33_40_19 ⟨by unfold own_icmp; simp only [*, if_true, if_false, Int32.lt_irrefl], rfl⟩ (by decide) (by decide)
    · refine w_iconst X (0 : Int32) djdk_33_40_14 rfl ?_
      refine w_goto X djdk_33_40_15 ?_
      exact w_retI X djdk_33_40_19 ⟨by unfold own_icmp; simp only [*, if_true, if_false, Int32.lt_irrefl], rfl⟩ (by decide) (by decide)
  · refine w_iconst X (-1 : Int32) djdk_33_40_5 rfl ?_
    refine w_goto X djdk_33_40_6 ?_
    exact w_retI X djdk_33_40_19 ⟨by unfold own_icmp; simp only [*, if_true, if_false, Int32.lt_irrefl], rfl⟩ (by decide) (by decide)
set_option maxRecDepth 65536 in
set_option maxHeartbeats 40000000 in
theorem m_sg {l : Launch} {Z : State} {a0 : Array Value} {n0 : Nat} (hw : ∀ d ∈ tables_1, d.before a0 Z = true) {h0 : Heap} {x0 : Int32}  :
    Does l Z n0 ⟨"com/example/whole_session/wholesession/RunCompareUtf8PinLaw", "sign", "(I)I"⟩ method_4_code 1 (some .int) [] { frames := 0, cells := 0, slots := 0, locals := 0 } #[(.int x0)] h0 (fun v h => v = some (.int (own_sign x0)) ∧ h0 = h) := by
  refine Does.start (plainFor_of_name pn_1) ?_
  intro p e s m below meth c T X
  replace X : Sd Z n0 0 method_4_code 1 "com/example/whole_session/wholesession/RunCompareUtf8PinLaw" "sign" (some .int) h0 p l e { frames := 0, cells := 0, slots := 0, locals := 0 } s m #[(.int x0)] below meth c T [] 0 0 := X
  refine Wp.cast (g' := mkF m 0 #[.val (.int x0)] []) (by first | (simp [entryFrame, mkF, argsToLocals, Value.category, maxLocals]; done) | rfl) ?_
  refine w_iloadN X d4_0 rfl ?_
  refine w_ifle X d4_1 (fun (hc1 : ¬ (0 : Int32) < x0) => ?_) (fun (hc1 : (0 : Int32) < x0) => ?_)
  · refine w_iloadN X d4_8 rfl ?_
    refine w_ifge X d4_9 (fun (hc9 : ¬ x0 < (0 : Int32)) => ?_) (fun (hc9 : x0 < (0 : Int32)) => ?_)
    · refine w_iconst X (0 : Int32) d4_16 rfl ?_
      exact w_retI X d4_17 ⟨by unfold own_sign; simp only [*, if_true, if_false], rfl⟩ (by decide) (by decide)
    · refine w_iconst X (-1 : Int32) d4_12 rfl ?_
      refine w_goto X d4_13 ?_
      exact w_retI X d4_17 ⟨by unfold own_sign; simp only [*, if_true, if_false], rfl⟩ (by decide) (by decide)
  · refine w_iconst X (1 : Int32) d4_4 rfl ?_
    refine w_goto X d4_5 ?_
    exact w_retI X d4_17 ⟨by unfold own_sign; simp only [*, if_true, if_false], rfl⟩ (by decide) (by decide)
set_option maxRecDepth 65536 in
set_option maxHeartbeats 40000000 in
theorem m_su {l : Launch} {Z : State} {a0 : Array Value} {n0 : Nat} (hw : ∀ d ∈ tables_1, d.before a0 Z = true) {h0 : Heap} {x0 : Int32}  :
    Does l Z n0 ⟨"java/lang/Character", "isSurrogate", "(C)Z"⟩ jdk_89_method_16_code 1 (some .boolean) [] { frames := 0, cells := 0, slots := 0, locals := 0 } #[(.int x0)] h0 (fun v h => v = some (.int (own_sur x0)) ∧ h0 = h) := by
  refine Does.start (plainFor_of_name pn_2) ?_
  intro p e s m below meth c T X
  replace X : Sd Z n0 0 jdk_89_method_16_code 1 "java/lang/Character" "isSurrogate" (some .boolean) h0 p l e { frames := 0, cells := 0, slots := 0, locals := 0 } s m #[(.int x0)] below meth c T [] 0 0 := X
  refine Wp.cast (g' := mkF m 0 #[.val (.int x0)] []) (by first | (simp [entryFrame, mkF, argsToLocals, Value.category, maxLocals]; done) | rfl) ?_
  refine w_iloadN X djdk_89_16_0 rfl ?_
  refine w_ldcI X djdk_89_16_1 (wd_96 hw) ?_
  refine w_icmplt X djdk_89_16_3 (fun (hc3 : x0 < (55296 : Int32)) => ?_) (fun (hc3 : ¬ x0 < (55296 : Int32)) => ?_)
  · refine w_iconst X (0 : Int32) djdk_89_16_16 rfl ?_
    exact w_ret_boolean X (0 : Int32) (by decide) djdk_89_16_17 ⟨by unfold own_sur; simp only [*, if_true, if_false], rfl⟩ (by decide) (by decide)
  · refine w_iloadN X djdk_89_16_6 rfl ?_
    refine w_ldcI X djdk_89_16_7 (wd_130 hw) ?_
    refine w_icmpge X djdk_89_16_9 (fun (hc9 : ¬ x0 < (57344 : Int32)) => ?_) (fun (hc9 : x0 < (57344 : Int32)) => ?_)
    · refine w_iconst X (0 : Int32) djdk_89_16_16 rfl ?_
      exact w_ret_boolean X (0 : Int32) (by decide) djdk_89_16_17 ⟨by unfold own_sur; simp only [*, if_true, if_false], rfl⟩ (by decide) (by decide)
    · refine w_iconst X (1 : Int32) djdk_89_16_12 rfl ?_
      refine w_goto X djdk_89_16_13 ?_
      exact w_ret_boolean X (1 : Int32) (by decide) djdk_89_16_17 ⟨by unfold own_sur; simp only [*, if_true, if_false], rfl⟩ (by decide) (by decide)
set_option maxRecDepth 65536 in
set_option maxHeartbeats 40000000 in
theorem m_cpo {l : Launch} {Z : State} {a0 : Array Value} {n0 : Nat} (hw : ∀ d ∈ tables_1, d.before a0 Z = true) {h0 : Heap} {x0 : Int32}  :
    Does l Z n0 ⟨"com/example/whole_session/wholesession/Run", "codePointOrder", "(C)I"⟩ prog_41_method_14_code 1 (some .int) [] { frames := 1, cells := 0, slots := 0, locals := 12 } #[(.int x0)] h0 (fun v h => v = some (.int (own_cpo x0)) ∧ h0 = h) := by
  refine Does.start (plainFor_of_name pn_3) ?_
  intro p e s m below meth c T X
  replace X : Sd Z n0 0 prog_41_method_14_code 1 "com/example/whole_session/wholesession/Run" "codePointOrder" (some .int) h0 p l e { frames := 1, cells := 0, slots := 0, locals := 12 } s m #[(.int x0)] below meth c T [] 0 0 := X
  refine Wp.cast (g' := mkF m 0 #[.val (.int x0)] []) (by first | (simp [entryFrame, mkF, argsToLocals, Value.category, maxLocals]; done) | rfl) ?_
  refine w_iloadN X dprog_41_14_0 rfl ?_
  refine w_callS X dprog_41_14_1 (wd_92 hw) (wd_93 hw) (wd_94 hw) (wd_95 hw) (by decide) (argsL := [(.int x0)]) (S := []) (m_su hw (x0 := x0)) pd_0 rfl rfl rfl (by decide) (Nat.le_of_ble_eq_true rfl) (by decide) (by decide) (fun T h1 v1 L1 X q1 => ?_)
  obtain ⟨rfl, rfl⟩ := q1
  show Wp p e below _ (T.setTop (mkF m 4 #[.val (.int x0)] [(.int (own_sur x0))]))
  refine w_ifeq X dprog_41_14_4 (fun (hc4 : (own_sur x0) = (0 : Int32)) => ?_) (fun (hc4 : ¬ (own_sur x0) = (0 : Int32)) => ?_)
  · refine w_iloadN X dprog_41_14_14 rfl ?_
    exact w_retI X dprog_41_14_15 ⟨by unfold own_cpo; simp only [*, if_true, if_false], rfl⟩ (by decide) (by decide)
  · refine w_iloadN X dprog_41_14_7 rfl ?_
    refine w_ldcI X dprog_41_14_8 (wd_132 hw) ?_
    refine w_iadd X dprog_41_14_10 ?_
    refine w_goto X dprog_41_14_11 ?_
    exact w_retI X dprog_41_14_15 ⟨by unfold own_cpo; simp only [*, if_true, if_false], rfl⟩ (by decide) (by decide)
set_option maxRecDepth 65536 in
set_option maxHeartbeats 40000000 in
theorem m_rank {l : Launch} {Z : State} {a0 : Array Value} {n0 : Nat} (hw : ∀ d ∈ tables_1, d.before a0 Z = true) {h0 : Heap} {x0 : Int32}  :
    Does l Z n0 ⟨"com/example/whole_session/wholesession/RunCompareUtf8PinLaw", "rank", "(C)I"⟩ method_5_code 1 (some .int) [] { frames := 0, cells := 0, slots := 0, locals := 0 } #[(.int x0)] h0 (fun v h => v = some (.int (own_rank x0)) ∧ h0 = h) := by
  refine Does.start (plainFor_of_name pn_1) ?_
  intro p e s m below meth c T X
  replace X : Sd Z n0 0 method_5_code 1 "com/example/whole_session/wholesession/RunCompareUtf8PinLaw" "rank" (some .int) h0 p l e { frames := 0, cells := 0, slots := 0, locals := 0 } s m #[(.int x0)] below meth c T [] 0 0 := X
  refine Wp.cast (g' := mkF m 0 #[.val (.int x0)] []) (by first | (simp [entryFrame, mkF, argsToLocals, Value.category, maxLocals]; done) | rfl) ?_
  refine w_iloadN X d5_0 rfl ?_
  refine w_ldcI X d5_1 (wd_100 hw) ?_
  refine w_icmpge X d5_3 (fun (hc3 : ¬ x0 < (55296 : Int32)) => ?_) (fun (hc3 : x0 < (55296 : Int32)) => ?_)
  · refine w_iloadN X d5_8 rfl ?_
    refine w_ldcI X d5_9 (wd_131 hw) ?_
    refine w_icmpge X d5_11 (fun (hc11 : ¬ x0 < (57344 : Int32)) => ?_) (fun (hc11 : x0 < (57344 : Int32)) => ?_)
    · refine w_iloadN X d5_20 rfl ?_
      refine w_sipush X (2048 : Int32) d5_21 rfl ?_
      refine w_isub X d5_24 ?_
      exact w_retI X d5_25 ⟨by unfold own_rank; simp only [*, if_true, if_false], rfl⟩ (by decide) (by decide)
    · refine w_iloadN X d5_14 rfl ?_
      refine w_sipush X (8192 : Int32) d5_15 rfl ?_
      refine w_iadd X d5_18 ?_
      exact w_retI X d5_19 ⟨by unfold own_rank; simp only [*, if_true, if_false], rfl⟩ (by decide) (by decide)
  · refine w_iloadN X d5_6 rfl ?_
    exact w_retI X d5_7 ⟨by unfold own_rank; simp only [*, if_true, if_false], rfl⟩ (by decide) (by decide)
set_option maxRecDepth 65536 in
set_option maxHeartbeats 40000000 in
theorem m_ref {l : Launch} {Z : State} {a0 : Array Value} {n0 : Nat} (hw : ∀ d ∈ tables_1, d.before a0 Z = true) {h0 : Heap} {la e0 e1 e2 lb f0 f1 f2 : Int32}  :
    Does l Z n0 ⟨"com/example/whole_session/wholesession/RunCompareUtf8PinLaw", "reference", "(ICCCICCC)I"⟩ method_6_code 9 (some .int) [] { frames := 1, cells := 0, slots := 0, locals := 13 } #[(.int la), (.int e0), (.int e1), (.int e2), (.int lb), (.int f0), (.int f1), (.int f2)] h0 (fun v h => v = some (.int (own_ref la e0 e1 e2 lb f0 f1 f2)) ∧ h0 = h) := by
  refine Does.start (plainFor_of_name pn_1) ?_
  intro p e s m below meth c T X
  replace X : Sd Z n0 0 method_6_code 9 "com/example/whole_session/wholesession/RunCompareUtf8PinLaw" "reference" (some .int) h0 p l e { frames := 1, cells := 0, slots := 0, locals := 13 } s m #[(.int la), (.int e0), (.int e1), (.int e2), (.int lb), (.int f0), (.int f1), (.int f2)] below meth c T [] 0 0 := X
  refine Wp.cast (g' := mkF m 0 #[.val (.int la), .val (.int e0), .val (.int e1), .val (.int e2), .val (.int lb), .val (.int f0), .val (.int f1), .val (.int f2), .unset] []) (by first | (simp [entryFrame, mkF, argsToLocals, Value.category, maxLocals]; done) | rfl) ?_
  refine w_iloadN X d6_0 rfl ?_
  refine w_iload X d6_1 rfl ?_
  refine w_callS X d6_3 (wd_66 hw) (wd_53 hw) (wd_54 hw) (wd_55 hw) (by decide) (argsL := [(.int la), (.int lb)]) (S := []) (m_min hw (r := own_minI la lb) rfl) pd_1 rfl rfl rfl (by decide) (Nat.le_of_ble_eq_true rfl) (by decide) (by decide) (fun T h1 v1 L1 X q1 => ?_)
  obtain ⟨rfl, rfl⟩ := q1
  show Wp p e below _ (T.setTop (mkF m 6 #[.val (.int la), .val (.int e0), .val (.int e1), .val (.int e2), .val (.int lb), .val (.int f0), .val (.int f1), .val (.int f2), .unset] [(.int (own_minI la lb))]))
  refine w_istore X #[.val (.int la), .val (.int e0), .val (.int e1), .val (.int e2), .val (.int lb), .val (.int f0), .val (.int f1), .val (.int f2), .val (.int (own_minI la lb))] d6_6 rfl ?_
  refine w_iload X d6_8 rfl ?_
  refine w_iconst X (1 : Int32) d6_10 rfl ?_
  refine w_icmplt X d6_11 (fun (hc11 : (own_minI la lb) < (1 : Int32)) => ?_) (fun (hc11 : ¬ (own_minI la lb) < (1 : Int32)) => ?_)
  · refine w_iload X d6_38 rfl ?_
    refine w_iconst X (2 : Int32) d6_40 rfl ?_
    refine w_icmplt X d6_41 (fun (hc41 : (own_minI la lb) < (2 : Int32)) => ?_) (fun (hc41 : ¬ (own_minI la lb) < (2 : Int32)) => ?_)
    · refine w_iload X d6_68 rfl ?_
      refine w_iconst X (3 : Int32) d6_70 rfl ?_
      refine w_icmplt X d6_71 (fun (hc71 : (own_minI la lb) < (3 : Int32)) => ?_) (fun (hc71 : ¬ (own_minI la lb) < (3 : Int32)) => ?_)
      · refine w_iloadN X d6_98 rfl ?_
        refine w_iload X d6_99 rfl ?_
        refine w_icmpge X d6_101 (fun (hc101 : ¬ la < lb) => ?_) (fun (hc101 : la < lb) => ?_)
        · refine w_iloadN X d6_106 rfl ?_
          refine w_iload X d6_107 rfl ?_
          refine w_icmple X d6_109 (fun (hc109 : ¬ lb < la) => ?_) (fun (hc109 : lb < la) => ?_)
          · refine w_iconst X (0 : Int32) d6_114 rfl ?_
            exact w_retI X d6_115 ⟨by unfold own_ref own_rk; simp only [*, if_true, if_false, not_true_eq_false, not_false_eq_true, and_false, false_and, and_true, true_and, and_self], rfl⟩ (by decide) (by decide)
          · refine w_iconst X (1 : Int32) d6_112 rfl ?_
            exact w_retI X d6_113 ⟨by unfold own_ref own_rk; simp only [*, if_true, if_false, not_true_eq_false, not_false_eq_true, and_false, false_and, and_true, true_and, and_self], rfl⟩ (by decide) (by decide)
        · refine w_iconst X (-1 : Int32) d6_104 rfl ?_
          exact w_retI X d6_105 ⟨by unfold own_ref own_rk; simp only [*, if_true, if_false, not_true_eq_false, not_false_eq_true, and_false, false_and, and_true, true_and, and_self], rfl⟩ (by decide) (by decide)
      · refine w_iloadN X d6_74 rfl ?_
        refine w_iload X d6_75 rfl ?_
        refine w_icmpeq X d6_77 (fun (hc77 : e2 = f2) => ?_) (fun (hc77 : ¬ e2 = f2) => ?_)
        · refine w_iloadN X d6_98 rfl ?_
          refine w_iload X d6_99 rfl ?_
          refine w_icmpge X d6_101 (fun (hc101 : ¬ la < lb) => ?_) (fun (hc101 : la < lb) => ?_)
          · refine w_iloadN X d6_106 rfl ?_
            refine w_iload X d6_107 rfl ?_
            refine w_icmple X d6_109 (fun (hc109 : ¬ lb < la) => ?_) (fun (hc109 : lb < la) => ?_)
            · refine w_iconst X (0 : Int32) d6_114 rfl ?_
              exact w_retI X d6_115 ⟨by unfold own_ref own_rk; simp only [*, if_true, if_false, not_true_eq_false, not_false_eq_true, and_false, false_and, and_true, true_and, and_self], rfl⟩ (by decide) (by decide)
            · refine w_iconst X (1 : Int32) d6_112 rfl ?_
              exact w_retI X d6_113 ⟨by unfold own_ref own_rk; simp only [*, if_true, if_false, not_true_eq_false, not_false_eq_true, and_false, false_and, and_true, true_and, and_self], rfl⟩ (by decide) (by decide)
          · refine w_iconst X (-1 : Int32) d6_104 rfl ?_
            exact w_retI X d6_105 ⟨by unfold own_ref own_rk; simp only [*, if_true, if_false, not_true_eq_false, not_false_eq_true, and_false, false_and, and_true, true_and, and_self], rfl⟩ (by decide) (by decide)
        · refine w_iloadN X d6_80 rfl ?_
          refine w_callS X d6_81 (wd_97 hw) (wd_98 hw) (wd_3 hw) (wd_99 hw) (by decide) (argsL := [(.int e2)]) (S := []) (m_rank hw (x0 := e2)) pd_2 rfl rfl rfl (by decide) (Nat.le_of_ble_eq_true rfl) (by decide) (by decide) (fun T h2 v2 L2 X q2 => ?_)
          obtain ⟨rfl, rfl⟩ := q2
          show Wp p e below _ (T.setTop (mkF m 84 #[.val (.int la), .val (.int e0), .val (.int e1), .val (.int e2), .val (.int lb), .val (.int f0), .val (.int f1), .val (.int f2), .val (.int (own_minI la lb))] [(.int (own_rank e2))]))
          refine w_iload X d6_84 rfl ?_
          refine w_callS X d6_86 (wd_97 hw) (wd_98 hw) (wd_3 hw) (wd_99 hw) (by decide) (argsL := [(.int f2)]) (S := [(.int (own_rank e2))]) (m_rank hw (x0 := f2)) pd_2 rfl rfl rfl (by decide) (Nat.le_of_ble_eq_true rfl) (by decide) (by decide) (fun T h3 v3 L3 X q3 => ?_)
          obtain ⟨rfl, rfl⟩ := q3
          show Wp p e below _ (T.setTop (mkF m 89 #[.val (.int la), .val (.int e0), .val (.int e1), .val (.int e2), .val (.int lb), .val (.int f0), .val (.int f1), .val (.int f2), .val (.int (own_minI la lb))] [(.int (own_rank f2)), (.int (own_rank e2))]))
          refine w_icmpge X d6_89 (fun (hc89 : ¬ (own_rank e2) < (own_rank f2)) => ?_) (fun (hc89 : (own_rank e2) < (own_rank f2)) => ?_)
          · refine w_iconst X (1 : Int32) d6_96 rfl ?_
            exact w_retI X d6_97 ⟨by unfold own_ref own_rk; simp only [*, if_true, if_false, not_true_eq_false, not_false_eq_true, and_false, false_and, and_true, true_and, and_self], rfl⟩ (by decide) (by decide)
          · refine w_iconst X (-1 : Int32) d6_92 rfl ?_
            refine w_goto X d6_93 ?_
            exact w_retI X d6_97 ⟨by unfold own_ref own_rk; simp only [*, if_true, if_false, not_true_eq_false, not_false_eq_true, and_false, false_and, and_true, true_and, and_self], rfl⟩ (by decide) (by decide)
    · refine w_iloadN X d6_44 rfl ?_
      refine w_iload X d6_45 rfl ?_
      refine w_icmpeq X d6_47 (fun (hc47 : e1 = f1) => ?_) (fun (hc47 : ¬ e1 = f1) => ?_)
      · refine w_iload X d6_68 rfl ?_
        refine w_iconst X (3 : Int32) d6_70 rfl ?_
        refine w_icmplt X d6_71 (fun (hc71 : (own_minI la lb) < (3 : Int32)) => ?_) (fun (hc71 : ¬ (own_minI la lb) < (3 : Int32)) => ?_)
        · refine w_iloadN X d6_98 rfl ?_
          refine w_iload X d6_99 rfl ?_
          refine w_icmpge X d6_101 (fun (hc101 : ¬ la < lb) => ?_) (fun (hc101 : la < lb) => ?_)
          · refine w_iloadN X d6_106 rfl ?_
            refine w_iload X d6_107 rfl ?_
            refine w_icmple X d6_109 (fun (hc109 : ¬ lb < la) => ?_) (fun (hc109 : lb < la) => ?_)
            · refine w_iconst X (0 : Int32) d6_114 rfl ?_
              exact w_retI X d6_115 ⟨by unfold own_ref own_rk; simp only [*, if_true, if_false, not_true_eq_false, not_false_eq_true, and_false, false_and, and_true, true_and, and_self], rfl⟩ (by decide) (by decide)
            · refine w_iconst X (1 : Int32) d6_112 rfl ?_
              exact w_retI X d6_113 ⟨by unfold own_ref own_rk; simp only [*, if_true, if_false, not_true_eq_false, not_false_eq_true, and_false, false_and, and_true, true_and, and_self], rfl⟩ (by decide) (by decide)
          · refine w_iconst X (-1 : Int32) d6_104 rfl ?_
            exact w_retI X d6_105 ⟨by unfold own_ref own_rk; simp only [*, if_true, if_false, not_true_eq_false, not_false_eq_true, and_false, false_and, and_true, true_and, and_self], rfl⟩ (by decide) (by decide)
        · refine w_iloadN X d6_74 rfl ?_
          refine w_iload X d6_75 rfl ?_
          refine w_icmpeq X d6_77 (fun (hc77 : e2 = f2) => ?_) (fun (hc77 : ¬ e2 = f2) => ?_)
          · refine w_iloadN X d6_98 rfl ?_
            refine w_iload X d6_99 rfl ?_
            refine w_icmpge X d6_101 (fun (hc101 : ¬ la < lb) => ?_) (fun (hc101 : la < lb) => ?_)
            · refine w_iloadN X d6_106 rfl ?_
              refine w_iload X d6_107 rfl ?_
              refine w_icmple X d6_109 (fun (hc109 : ¬ lb < la) => ?_) (fun (hc109 : lb < la) => ?_)
              · refine w_iconst X (0 : Int32) d6_114 rfl ?_
                exact w_retI X d6_115 ⟨by unfold own_ref own_rk; simp only [*, if_true, if_false, not_true_eq_false, not_false_eq_true, and_false, false_and, and_true, true_and, and_self], rfl⟩ (by decide) (by decide)
              · refine w_iconst X (1 : Int32) d6_112 rfl ?_
                exact w_retI X d6_113 ⟨by unfold own_ref own_rk; simp only [*, if_true, if_false, not_true_eq_false, not_false_eq_true, and_false, false_and, and_true, true_and, and_self], rfl⟩ (by decide) (by decide)
            · refine w_iconst X (-1 : Int32) d6_104 rfl ?_
              exact w_retI X d6_105 ⟨by unfold own_ref own_rk; simp only [*, if_true, if_false, not_true_eq_false, not_false_eq_true, and_false, false_and, and_true, true_and, and_self], rfl⟩ (by decide) (by decide)
          · refine w_iloadN X d6_80 rfl ?_
            refine w_callS X d6_81 (wd_97 hw) (wd_98 hw) (wd_3 hw) (wd_99 hw) (by decide) (argsL := [(.int e2)]) (S := []) (m_rank hw (x0 := e2)) pd_2 rfl rfl rfl (by decide) (Nat.le_of_ble_eq_true rfl) (by decide) (by decide) (fun T h4 v4 L4 X q4 => ?_)
            obtain ⟨rfl, rfl⟩ := q4
            show Wp p e below _ (T.setTop (mkF m 84 #[.val (.int la), .val (.int e0), .val (.int e1), .val (.int e2), .val (.int lb), .val (.int f0), .val (.int f1), .val (.int f2), .val (.int (own_minI la lb))] [(.int (own_rank e2))]))
            refine w_iload X d6_84 rfl ?_
            refine w_callS X d6_86 (wd_97 hw) (wd_98 hw) (wd_3 hw) (wd_99 hw) (by decide) (argsL := [(.int f2)]) (S := [(.int (own_rank e2))]) (m_rank hw (x0 := f2)) pd_2 rfl rfl rfl (by decide) (Nat.le_of_ble_eq_true rfl) (by decide) (by decide) (fun T h5 v5 L5 X q5 => ?_)
            obtain ⟨rfl, rfl⟩ := q5
            show Wp p e below _ (T.setTop (mkF m 89 #[.val (.int la), .val (.int e0), .val (.int e1), .val (.int e2), .val (.int lb), .val (.int f0), .val (.int f1), .val (.int f2), .val (.int (own_minI la lb))] [(.int (own_rank f2)), (.int (own_rank e2))]))
            refine w_icmpge X d6_89 (fun (hc89 : ¬ (own_rank e2) < (own_rank f2)) => ?_) (fun (hc89 : (own_rank e2) < (own_rank f2)) => ?_)
            · refine w_iconst X (1 : Int32) d6_96 rfl ?_
              exact w_retI X d6_97 ⟨by unfold own_ref own_rk; simp only [*, if_true, if_false, not_true_eq_false, not_false_eq_true, and_false, false_and, and_true, true_and, and_self], rfl⟩ (by decide) (by decide)
            · refine w_iconst X (-1 : Int32) d6_92 rfl ?_
              refine w_goto X d6_93 ?_
              exact w_retI X d6_97 ⟨by unfold own_ref own_rk; simp only [*, if_true, if_false, not_true_eq_false, not_false_eq_true, and_false, false_and, and_true, true_and, and_self], rfl⟩ (by decide) (by decide)
      · refine w_iloadN X d6_50 rfl ?_
        refine w_callS X d6_51 (wd_97 hw) (wd_98 hw) (wd_3 hw) (wd_99 hw) (by decide) (argsL := [(.int e1)]) (S := []) (m_rank hw (x0 := e1)) pd_2 rfl rfl rfl (by decide) (Nat.le_of_ble_eq_true rfl) (by decide) (by decide) (fun T h6 v6 L6 X q6 => ?_)
        obtain ⟨rfl, rfl⟩ := q6
        show Wp p e below _ (T.setTop (mkF m 54 #[.val (.int la), .val (.int e0), .val (.int e1), .val (.int e2), .val (.int lb), .val (.int f0), .val (.int f1), .val (.int f2), .val (.int (own_minI la lb))] [(.int (own_rank e1))]))
        refine w_iload X d6_54 rfl ?_
        refine w_callS X d6_56 (wd_97 hw) (wd_98 hw) (wd_3 hw) (wd_99 hw) (by decide) (argsL := [(.int f1)]) (S := [(.int (own_rank e1))]) (m_rank hw (x0 := f1)) pd_2 rfl rfl rfl (by decide) (Nat.le_of_ble_eq_true rfl) (by decide) (by decide) (fun T h7 v7 L7 X q7 => ?_)
        obtain ⟨rfl, rfl⟩ := q7
        show Wp p e below _ (T.setTop (mkF m 59 #[.val (.int la), .val (.int e0), .val (.int e1), .val (.int e2), .val (.int lb), .val (.int f0), .val (.int f1), .val (.int f2), .val (.int (own_minI la lb))] [(.int (own_rank f1)), (.int (own_rank e1))]))
        refine w_icmpge X d6_59 (fun (hc59 : ¬ (own_rank e1) < (own_rank f1)) => ?_) (fun (hc59 : (own_rank e1) < (own_rank f1)) => ?_)
        · refine w_iconst X (1 : Int32) d6_66 rfl ?_
          exact w_retI X d6_67 ⟨by unfold own_ref own_rk; simp only [*, if_true, if_false, not_true_eq_false, not_false_eq_true, and_false, false_and, and_true, true_and, and_self], rfl⟩ (by decide) (by decide)
        · refine w_iconst X (-1 : Int32) d6_62 rfl ?_
          refine w_goto X d6_63 ?_
          exact w_retI X d6_67 ⟨by unfold own_ref own_rk; simp only [*, if_true, if_false, not_true_eq_false, not_false_eq_true, and_false, false_and, and_true, true_and, and_self], rfl⟩ (by decide) (by decide)
  · refine w_iloadN X d6_14 rfl ?_
    refine w_iload X d6_15 rfl ?_
    refine w_icmpeq X d6_17 (fun (hc17 : e0 = f0) => ?_) (fun (hc17 : ¬ e0 = f0) => ?_)
    · refine w_iload X d6_38 rfl ?_
      refine w_iconst X (2 : Int32) d6_40 rfl ?_
      refine w_icmplt X d6_41 (fun (hc41 : (own_minI la lb) < (2 : Int32)) => ?_) (fun (hc41 : ¬ (own_minI la lb) < (2 : Int32)) => ?_)
      · refine w_iload X d6_68 rfl ?_
        refine w_iconst X (3 : Int32) d6_70 rfl ?_
        refine w_icmplt X d6_71 (fun (hc71 : (own_minI la lb) < (3 : Int32)) => ?_) (fun (hc71 : ¬ (own_minI la lb) < (3 : Int32)) => ?_)
        · refine w_iloadN X d6_98 rfl ?_
          refine w_iload X d6_99 rfl ?_
          refine w_icmpge X d6_101 (fun (hc101 : ¬ la < lb) => ?_) (fun (hc101 : la < lb) => ?_)
          · refine w_iloadN X d6_106 rfl ?_
            refine w_iload X d6_107 rfl ?_
            refine w_icmple X d6_109 (fun (hc109 : ¬ lb < la) => ?_) (fun (hc109 : lb < la) => ?_)
            · refine w_iconst X (0 : Int32) d6_114 rfl ?_
              exact w_retI X d6_115 ⟨by unfold own_ref own_rk; simp only [*, if_true, if_false, not_true_eq_false, not_false_eq_true, and_false, false_and, and_true, true_and, and_self], rfl⟩ (by decide) (by decide)
            · refine w_iconst X (1 : Int32) d6_112 rfl ?_
              exact w_retI X d6_113 ⟨by unfold own_ref own_rk; simp only [*, if_true, if_false, not_true_eq_false, not_false_eq_true, and_false, false_and, and_true, true_and, and_self], rfl⟩ (by decide) (by decide)
          · refine w_iconst X (-1 : Int32) d6_104 rfl ?_
            exact w_retI X d6_105 ⟨by unfold own_ref own_rk; simp only [*, if_true, if_false, not_true_eq_false, not_false_eq_true, and_false, false_and, and_true, true_and, and_self], rfl⟩ (by decide) (by decide)
        · refine w_iloadN X d6_74 rfl ?_
          refine w_iload X d6_75 rfl ?_
          refine w_icmpeq X d6_77 (fun (hc77 : e2 = f2) => ?_) (fun (hc77 : ¬ e2 = f2) => ?_)
          · refine w_iloadN X d6_98 rfl ?_
            refine w_iload X d6_99 rfl ?_
            refine w_icmpge X d6_101 (fun (hc101 : ¬ la < lb) => ?_) (fun (hc101 : la < lb) => ?_)
            · refine w_iloadN X d6_106 rfl ?_
              refine w_iload X d6_107 rfl ?_
              refine w_icmple X d6_109 (fun (hc109 : ¬ lb < la) => ?_) (fun (hc109 : lb < la) => ?_)
              · refine w_iconst X (0 : Int32) d6_114 rfl ?_
                exact w_retI X d6_115 ⟨by unfold own_ref own_rk; simp only [*, if_true, if_false, not_true_eq_false, not_false_eq_true, and_false, false_and, and_true, true_and, and_self], rfl⟩ (by decide) (by decide)
              · refine w_iconst X (1 : Int32) d6_112 rfl ?_
                exact w_retI X d6_113 ⟨by unfold own_ref own_rk; simp only [*, if_true, if_false, not_true_eq_false, not_false_eq_true, and_false, false_and, and_true, true_and, and_self], rfl⟩ (by decide) (by decide)
            · refine w_iconst X (-1 : Int32) d6_104 rfl ?_
              exact w_retI X d6_105 ⟨by unfold own_ref own_rk; simp only [*, if_true, if_false, not_true_eq_false, not_false_eq_true, and_false, false_and, and_true, true_and, and_self], rfl⟩ (by decide) (by decide)
          · refine w_iloadN X d6_80 rfl ?_
            refine w_callS X d6_81 (wd_97 hw) (wd_98 hw) (wd_3 hw) (wd_99 hw) (by decide) (argsL := [(.int e2)]) (S := []) (m_rank hw (x0 := e2)) pd_2 rfl rfl rfl (by decide) (Nat.le_of_ble_eq_true rfl) (by decide) (by decide) (fun T h8 v8 L8 X q8 => ?_)
            obtain ⟨rfl, rfl⟩ := q8
            show Wp p e below _ (T.setTop (mkF m 84 #[.val (.int la), .val (.int e0), .val (.int e1), .val (.int e2), .val (.int lb), .val (.int f0), .val (.int f1), .val (.int f2), .val (.int (own_minI la lb))] [(.int (own_rank e2))]))
            refine w_iload X d6_84 rfl ?_
            refine w_callS X d6_86 (wd_97 hw) (wd_98 hw) (wd_3 hw) (wd_99 hw) (by decide) (argsL := [(.int f2)]) (S := [(.int (own_rank e2))]) (m_rank hw (x0 := f2)) pd_2 rfl rfl rfl (by decide) (Nat.le_of_ble_eq_true rfl) (by decide) (by decide) (fun T h9 v9 L9 X q9 => ?_)
            obtain ⟨rfl, rfl⟩ := q9
            show Wp p e below _ (T.setTop (mkF m 89 #[.val (.int la), .val (.int e0), .val (.int e1), .val (.int e2), .val (.int lb), .val (.int f0), .val (.int f1), .val (.int f2), .val (.int (own_minI la lb))] [(.int (own_rank f2)), (.int (own_rank e2))]))
            refine w_icmpge X d6_89 (fun (hc89 : ¬ (own_rank e2) < (own_rank f2)) => ?_) (fun (hc89 : (own_rank e2) < (own_rank f2)) => ?_)
            · refine w_iconst X (1 : Int32) d6_96 rfl ?_
              exact w_retI X d6_97 ⟨by unfold own_ref own_rk; simp only [*, if_true, if_false, not_true_eq_false, not_false_eq_true, and_false, false_and, and_true, true_and, and_self], rfl⟩ (by decide) (by decide)
            · refine w_iconst X (-1 : Int32) d6_92 rfl ?_
              refine w_goto X d6_93 ?_
              exact w_retI X d6_97 ⟨by unfold own_ref own_rk; simp only [*, if_true, if_false, not_true_eq_false, not_false_eq_true, and_false, false_and, and_true, true_and, and_self], rfl⟩ (by decide) (by decide)
      · refine w_iloadN X d6_44 rfl ?_
        refine w_iload X d6_45 rfl ?_
        refine w_icmpeq X d6_47 (fun (hc47 : e1 = f1) => ?_) (fun (hc47 : ¬ e1 = f1) => ?_)
        · refine w_iload X d6_68 rfl ?_
          refine w_iconst X (3 : Int32) d6_70 rfl ?_
          refine w_icmplt X d6_71 (fun (hc71 : (own_minI la lb) < (3 : Int32)) => ?_) (fun (hc71 : ¬ (own_minI la lb) < (3 : Int32)) => ?_)
          · refine w_iloadN X d6_98 rfl ?_
            refine w_iload X d6_99 rfl ?_
            refine w_icmpge X d6_101 (fun (hc101 : ¬ la < lb) => ?_) (fun (hc101 : la < lb) => ?_)
            · refine w_iloadN X d6_106 rfl ?_
              refine w_iload X d6_107 rfl ?_
              refine w_icmple X d6_109 (fun (hc109 : ¬ lb < la) => ?_) (fun (hc109 : lb < la) => ?_)
              · refine w_iconst X (0 : Int32) d6_114 rfl ?_
                exact w_retI X d6_115 ⟨by unfold own_ref own_rk; simp only [*, if_true, if_false, not_true_eq_false, not_false_eq_true, and_false, false_and, and_true, true_and, and_self], rfl⟩ (by decide) (by decide)
              · refine w_iconst X (1 : Int32) d6_112 rfl ?_
                exact w_retI X d6_113 ⟨by unfold own_ref own_rk; simp only [*, if_true, if_false, not_true_eq_false, not_false_eq_true, and_false, false_and, and_true, true_and, and_self], rfl⟩ (by decide) (by decide)
            · refine w_iconst X (-1 : Int32) d6_104 rfl ?_
              exact w_retI X d6_105 ⟨by unfold own_ref own_rk; simp only [*, if_true, if_false, not_true_eq_false, not_false_eq_true, and_false, false_and, and_true, true_and, and_self], rfl⟩ (by decide) (by decide)
          · refine w_iloadN X d6_74 rfl ?_
            refine w_iload X d6_75 rfl ?_
            refine w_icmpeq X d6_77 (fun (hc77 : e2 = f2) => ?_) (fun (hc77 : ¬ e2 = f2) => ?_)
            · refine w_iloadN X d6_98 rfl ?_
              refine w_iload X d6_99 rfl ?_
              refine w_icmpge X d6_101 (fun (hc101 : ¬ la < lb) => ?_) (fun (hc101 : la < lb) => ?_)
              · refine w_iloadN X d6_106 rfl ?_
                refine w_iload X d6_107 rfl ?_
                refine w_icmple X d6_109 (fun (hc109 : ¬ lb < la) => ?_) (fun (hc109 : lb < la) => ?_)
                · refine w_iconst X (0 : Int32) d6_114 rfl ?_
                  exact w_retI X d6_115 ⟨by unfold own_ref own_rk; simp only [*, if_true, if_false, not_true_eq_false, not_false_eq_true, and_false, false_and, and_true, true_and, and_self], rfl⟩ (by decide) (by decide)
                · refine w_iconst X (1 : Int32) d6_112 rfl ?_
                  exact w_retI X d6_113 ⟨by unfold own_ref own_rk; simp only [*, if_true, if_false, not_true_eq_false, not_false_eq_true, and_false, false_and, and_true, true_and, and_self], rfl⟩ (by decide) (by decide)
              · refine w_iconst X (-1 : Int32) d6_104 rfl ?_
                exact w_retI X d6_105 ⟨by unfold own_ref own_rk; simp only [*, if_true, if_false, not_true_eq_false, not_false_eq_true, and_false, false_and, and_true, true_and, and_self], rfl⟩ (by decide) (by decide)
            · refine w_iloadN X d6_80 rfl ?_
              refine w_callS X d6_81 (wd_97 hw) (wd_98 hw) (wd_3 hw) (wd_99 hw) (by decide) (argsL := [(.int e2)]) (S := []) (m_rank hw (x0 := e2)) pd_2 rfl rfl rfl (by decide) (Nat.le_of_ble_eq_true rfl) (by decide) (by decide) (fun T h10 v10 L10 X q10 => ?_)
              obtain ⟨rfl, rfl⟩ := q10
              show Wp p e below _ (T.setTop (mkF m 84 #[.val (.int la), .val (.int e0), .val (.int e1), .val (.int e2), .val (.int lb), .val (.int f0), .val (.int f1), .val (.int f2), .val (.int (own_minI la lb))] [(.int (own_rank e2))]))
              refine w_iload X d6_84 rfl ?_
              refine w_callS X d6_86 (wd_97 hw) (wd_98 hw) (wd_3 hw) (wd_99 hw) (by decide) (argsL := [(.int f2)]) (S := [(.int (own_rank e2))]) (m_rank hw (x0 := f2)) pd_2 rfl rfl rfl (by decide) (Nat.le_of_ble_eq_true rfl) (by decide) (by decide) (fun T h11 v11 L11 X q11 => ?_)
              obtain ⟨rfl, rfl⟩ := q11
              show Wp p e below _ (T.setTop (mkF m 89 #[.val (.int la), .val (.int e0), .val (.int e1), .val (.int e2), .val (.int lb), .val (.int f0), .val (.int f1), .val (.int f2), .val (.int (own_minI la lb))] [(.int (own_rank f2)), (.int (own_rank e2))]))
              refine w_icmpge X d6_89 (fun (hc89 : ¬ (own_rank e2) < (own_rank f2)) => ?_) (fun (hc89 : (own_rank e2) < (own_rank f2)) => ?_)
              · refine w_iconst X (1 : Int32) d6_96 rfl ?_
                exact w_retI X d6_97 ⟨by unfold own_ref own_rk; simp only [*, if_true, if_false, not_true_eq_false, not_false_eq_true, and_false, false_and, and_true, true_and, and_self], rfl⟩ (by decide) (by decide)
              · refine w_iconst X (-1 : Int32) d6_92 rfl ?_
                refine w_goto X d6_93 ?_
                exact w_retI X d6_97 ⟨by unfold own_ref own_rk; simp only [*, if_true, if_false, not_true_eq_false, not_false_eq_true, and_false, false_and, and_true, true_and, and_self], rfl⟩ (by decide) (by decide)
        · refine w_iloadN X d6_50 rfl ?_
          refine w_callS X d6_51 (wd_97 hw) (wd_98 hw) (wd_3 hw) (wd_99 hw) (by decide) (argsL := [(.int e1)]) (S := []) (m_rank hw (x0 := e1)) pd_2 rfl rfl rfl (by decide) (Nat.le_of_ble_eq_true rfl) (by decide) (by decide) (fun T h12 v12 L12 X q12 => ?_)
          obtain ⟨rfl, rfl⟩ := q12
          show Wp p e below _ (T.setTop (mkF m 54 #[.val (.int la), .val (.int e0), .val (.int e1), .val (.int e2), .val (.int lb), .val (.int f0), .val (.int f1), .val (.int f2), .val (.int (own_minI la lb))] [(.int (own_rank e1))]))
          refine w_iload X d6_54 rfl ?_
          refine w_callS X d6_56 (wd_97 hw) (wd_98 hw) (wd_3 hw) (wd_99 hw) (by decide) (argsL := [(.int f1)]) (S := [(.int (own_rank e1))]) (m_rank hw (x0 := f1)) pd_2 rfl rfl rfl (by decide) (Nat.le_of_ble_eq_true rfl) (by decide) (by decide) (fun T h13 v13 L13 X q13 => ?_)
          obtain ⟨rfl, rfl⟩ := q13
          show Wp p e below _ (T.setTop (mkF m 59 #[.val (.int la), .val (.int e0), .val (.int e1), .val (.int e2), .val (.int lb), .val (.int f0), .val (.int f1), .val (.int f2), .val (.int (own_minI la lb))] [(.int (own_rank f1)), (.int (own_rank e1))]))
          refine w_icmpge X d6_59 (fun (hc59 : ¬ (own_rank e1) < (own_rank f1)) => ?_) (fun (hc59 : (own_rank e1) < (own_rank f1)) => ?_)
          · refine w_iconst X (1 : Int32) d6_66 rfl ?_
            exact w_retI X d6_67 ⟨by unfold own_ref own_rk; simp only [*, if_true, if_false, not_true_eq_false, not_false_eq_true, and_false, false_and, and_true, true_and, and_self], rfl⟩ (by decide) (by decide)
          · refine w_iconst X (-1 : Int32) d6_62 rfl ?_
            refine w_goto X d6_63 ?_
            exact w_retI X d6_67 ⟨by unfold own_ref own_rk; simp only [*, if_true, if_false, not_true_eq_false, not_false_eq_true, and_false, false_and, and_true, true_and, and_self], rfl⟩ (by decide) (by decide)
    · refine w_iloadN X d6_20 rfl ?_
      refine w_callS X d6_21 (wd_97 hw) (wd_98 hw) (wd_3 hw) (wd_99 hw) (by decide) (argsL := [(.int e0)]) (S := []) (m_rank hw (x0 := e0)) pd_2 rfl rfl rfl (by decide) (Nat.le_of_ble_eq_true rfl) (by decide) (by decide) (fun T h14 v14 L14 X q14 => ?_)
      obtain ⟨rfl, rfl⟩ := q14
      show Wp p e below _ (T.setTop (mkF m 24 #[.val (.int la), .val (.int e0), .val (.int e1), .val (.int e2), .val (.int lb), .val (.int f0), .val (.int f1), .val (.int f2), .val (.int (own_minI la lb))] [(.int (own_rank e0))]))
      refine w_iload X d6_24 rfl ?_
      refine w_callS X d6_26 (wd_97 hw) (wd_98 hw) (wd_3 hw) (wd_99 hw) (by decide) (argsL := [(.int f0)]) (S := [(.int (own_rank e0))]) (m_rank hw (x0 := f0)) pd_2 rfl rfl rfl (by decide) (Nat.le_of_ble_eq_true rfl) (by decide) (by decide) (fun T h15 v15 L15 X q15 => ?_)
      obtain ⟨rfl, rfl⟩ := q15
      show Wp p e below _ (T.setTop (mkF m 29 #[.val (.int la), .val (.int e0), .val (.int e1), .val (.int e2), .val (.int lb), .val (.int f0), .val (.int f1), .val (.int f2), .val (.int (own_minI la lb))] [(.int (own_rank f0)), (.int (own_rank e0))]))
      refine w_icmpge X d6_29 (fun (hc29 : ¬ (own_rank e0) < (own_rank f0)) => ?_) (fun (hc29 : (own_rank e0) < (own_rank f0)) => ?_)
      · refine w_iconst X (1 : Int32) d6_36 rfl ?_
        exact w_retI X d6_37 ⟨by unfold own_ref own_rk; simp only [*, if_true, if_false, not_true_eq_false, not_false_eq_true, and_false, false_and, and_true, true_and, and_self], rfl⟩ (by decide) (by decide)
      · refine w_iconst X (-1 : Int32) d6_32 rfl ?_
        refine w_goto X d6_33 ?_
        exact w_retI X d6_37 ⟨by unfold own_ref own_rk; simp only [*, if_true, if_false, not_true_eq_false, not_false_eq_true, and_false, false_and, and_true, true_and, and_self], rfl⟩ (by decide) (by decide)
set_option maxRecDepth 65536 in
set_option maxHeartbeats 40000000 in
theorem m_si4_0 {l : Launch} {Z : State} {a0 : Array Value} {n0 : Nat} (hw : ∀ d ∈ tables_1, d.before a0 Z = true) {h0 : Heap} {zc : Int32} {fm : Value} {a b : Addr} (hS : own_S Z zc fm) (ga : n0 ≤ a) (Ea : Exa Z h0 a "java/lang/String") (Va : Fld Z h0 a "java/lang/String" "value" "[B" .null) (Ca : Fld Z h0 a "java/lang/String" "coder" "B" (.int (0 : Int32))) (hheld : Jvm.Lit.constHeld Z "java/lang/String" 7) (hcw : Jvm.Lit.compactW.before a0 Z = true) :
    DoesG l Z n0 (Em Z h0) ⟨"java/lang/String", "<init>", "([CIILjava/lang/Void;)V"⟩ jdk_42_method_149_code 6 none [] { frames := 1, cells := 2, slots := 4, locals := 12 } #[(.ref a), (.ref b), (.int (0 : Int32)), (.int (0 : Int32)), .null] h0 (fun v h vm => v = none ∧ Keep h0 h [a] ∧ Em Z h vm ∧ ∃ t, Txt Z h a t []) := by
  refine DoesG.start (plainFor_of_name pn_4) ?_
  obtain ⟨S_zc, hzc, S_fm, hfm⟩ := id hS
  intro p e s m below meth c T X Y hs0 Gs
  replace X : Sd Z n0 0 jdk_42_method_149_code 6 "java/lang/String" "<init>" none h0 p l e { frames := 1, cells := 2, slots := 4, locals := 12 } (s.setVm s.vm) m #[(.ref a), (.ref b), (.int (0 : Int32)), (.int (0 : Int32)), .null] below meth c T [] 0 0 := X
  refine Wp.cast (g' := mkF m 0 #[.val (.ref a), .val (.ref b), .val (.int (0 : Int32)), .val (.int (0 : Int32)), .val .null, .unset] []) (by first | (simp [entryFrame, mkF, argsToLocals, Value.category, maxLocals]; done) | rfl) ?_
  refine w_aloadN X djdk_42_149_0 rfl (rfl) ?_
  refine w_initO X djdk_42_149_1 (wd_16 hw) (wd_17 hw) (wd_18 hw) rfl (by decide) (Nat.le_of_ble_eq_true rfl) (fun T X => ?_)
  refine w_iloadN X djdk_42_149_4 rfl ?_
  refine w_ifne X djdk_42_149_5 (fun hc => absurd rfl hc) (fun _ => ?_)
  refine w_aloadN X djdk_42_149_8 rfl (rfl) ?_
  rcases Gs with I0 | ⟨a1, b1, L1, E1, C1, V1, B1⟩
  · have hlo : Fr s.heap.size ([] : List Loc) := Fr.nil _
    have hkp : ∀ (b : Addr) (cl : Cell), Z.heap[b]? = some cl → s.heap[b]? = some cl := by rw [hs0]; exact X.old.2.2
    refine v_ldcL X Y djdk_42_149_9 (wd_35 hw) (own_wS hw) hlo hkp I0 (by decide) hheld hcw [] (0 : Int32) (by decide) (by decide) (by decide) 0 (by decide) (by decide) (by decide) (by decide) (fun T h1 u kk a1 b1 X Y Ex1 E1 C1 V1 B1 I1 L1 => ?_)
    have K1 : Keep h0 h1 [a] := (Keep.refl h0 [a]).ext Ex1
    have f2 := (Va.ext Ex1)
    have f3 := (Ea.ext Ex1)
    have nA1 : a1 ≠ a := (own_fne V1 f2 (by nofun))
    have nB1 : b1 ≠ a := (Ne.symm (own_ane f3 (wd_6 hw) B1))
    refine w_getF X djdk_42_149_11 (host := "") (Or.inl (wd_33 hw)) Via.refl V1 (fun T X => ?_)
    refine w_putF X djdk_42_149_14 (host := "") (Or.inl (wd_33 hw)) Via.refl f2 f3 (Or.inr ⟨(wd_34 hw), rfl, rfl⟩) (wd_6 hw) (ty := (.array .byte)) (by decide) rfl rfl ga (fun T h2 X W2 => ?_)
    have f4 := f2.same W2
    have K5 : Keep h0 h2 [a] := K1.wr W2 (Or.inl (List.mem_of_getElem? (i := 0) rfl))
    refine w_aloadN X djdk_42_149_17 rfl (rfl) ?_
    refine v_ldcA X djdk_42_149_18 (wd_35 hw) L1 ?_
    have f6 := (C1.other W2 (Or.inl nA1))
    refine w_getF X djdk_42_149_20 (host := "") (Or.inl (wd_31 hw)) Via.refl f6 (fun T X => ?_)
    have f7 := (f3.wr W2)
    have f8 := ((Ca.ext Ex1).other W2 (Or.inr (slot_ne (Or.inr (wd_32 hw)) (Or.inr (wd_34 hw)) (by decide) (t := .byte) (t' := (.array .byte)) (by decide) (by decide))))
    refine w_putFN X djdk_42_149_23 (wd_31 hw) Via.refl f8 f7 (Or.inr ⟨(wd_32 hw), rfl, rfl⟩) (wd_6 hw) (ty := .byte) (by decide) (.int (0 : Int32)) rfl (by decide) ga (fun T h3 X W3 => ?_)
    have f9 := f8.same W3
    have K10 : Keep h0 h3 [a] := K5.wr W3 (Or.inl (List.mem_of_getElem? (i := 0) rfl))
    have f11 := ((E1.wr W2).wr W3)
    have f12 := (f6.other W3 (Or.inl nA1))
    have f13 := ((V1.other W2 (Or.inl nA1)).other W3 (Or.inl nA1))
    have f14 := ((B1.other W2 nB1).other W3 nB1)
    have f15 := (f7.wr W3)
    have f16 := (f4.other W3 (Or.inr (slot_ne (Or.inr (wd_34 hw)) (Or.inr (wd_32 hw)) (by decide) (t := (.array .byte)) (t' := .byte) (by decide) (by decide))))
    exact g_retV X Y djdk_42_149_26 (fun vm' hW => ⟨rfl, K10, Or.inr ⟨a1, b1, Lit.stays (s := s) L1 hW.wide, f11, f12, f13, f14⟩, b1, f15, f16, Or.inl ⟨f9, f14, nofun⟩⟩) (by decide) (by decide)
  · replace L1 : Lit (s.setVm s.vm) "java/lang/String" 7 a1 := L1
    refine v_ldcA X djdk_42_149_9 (wd_35 hw) L1 ?_
    have nA1 : a1 ≠ a := (own_fne V1 Va (by nofun))
    have nB1 : b1 ≠ a := (Ne.symm (own_ane Ea (wd_6 hw) B1))
    refine w_getF X djdk_42_149_11 (host := "") (Or.inl (wd_33 hw)) Via.refl V1 (fun T X => ?_)
    refine w_putF X djdk_42_149_14 (host := "") (Or.inl (wd_33 hw)) Via.refl Va Ea (Or.inr ⟨(wd_34 hw), rfl, rfl⟩) (wd_6 hw) (ty := (.array .byte)) (by decide) rfl rfl ga (fun T h4 X W4 => ?_)
    have f17 := Va.same W4
    have K18 : Keep h0 h4 [a] := (Keep.refl h0 [a]).wr W4 (Or.inl (List.mem_of_getElem? (i := 0) rfl))
    refine w_aloadN X djdk_42_149_17 rfl (rfl) ?_
    refine v_ldcA X djdk_42_149_18 (wd_35 hw) L1 ?_
    have f19 := (C1.other W4 (Or.inl nA1))
    refine w_getF X djdk_42_149_20 (host := "") (Or.inl (wd_31 hw)) Via.refl f19 (fun T X => ?_)
    have f20 := (Ea.wr W4)
    have f21 := (Ca.other W4 (Or.inr (slot_ne (Or.inr (wd_32 hw)) (Or.inr (wd_34 hw)) (by decide) (t := .byte) (t' := (.array .byte)) (by decide) (by decide))))
    refine w_putFN X djdk_42_149_23 (wd_31 hw) Via.refl f21 f20 (Or.inr ⟨(wd_32 hw), rfl, rfl⟩) (wd_6 hw) (ty := .byte) (by decide) (.int (0 : Int32)) rfl (by decide) ga (fun T h5 X W5 => ?_)
    have f22 := f21.same W5
    have K23 : Keep h0 h5 [a] := K18.wr W5 (Or.inl (List.mem_of_getElem? (i := 0) rfl))
    have f24 := ((E1.wr W4).wr W5)
    have f25 := (f19.other W5 (Or.inl nA1))
    have f26 := ((V1.other W4 (Or.inl nA1)).other W5 (Or.inl nA1))
    have f27 := ((B1.other W4 nB1).other W5 nB1)
    have f28 := (f20.wr W5)
    have f29 := (f17.other W5 (Or.inr (slot_ne (Or.inr (wd_34 hw)) (Or.inr (wd_32 hw)) (by decide) (t := (.array .byte)) (t' := .byte) (by decide) (by decide))))
    exact g_retV X Y djdk_42_149_26 (fun vm' hW => ⟨rfl, K23, Or.inr ⟨a1, b1, Lit.stays (s := s) L1 hW.wide, f24, f25, f26, f27⟩, b1, f28, f29, Or.inl ⟨f22, f27, nofun⟩⟩) (by decide) (by decide)
set_option maxRecDepth 65536 in
set_option maxHeartbeats 40000000 in
theorem m_si_0 {l : Launch} {Z : State} {a0 : Array Value} {n0 : Nat} (hw : ∀ d ∈ tables_1, d.before a0 Z = true) {h0 : Heap} {zc : Int32} {fm : Value} {a b : Addr} (hS : own_S Z zc fm) (ga : n0 ≤ a) (Ea : Exa Z h0 a "java/lang/String") (Va : Fld Z h0 a "java/lang/String" "value" "[B" .null) (Ca : Fld Z h0 a "java/lang/String" "coder" "B" (.int (0 : Int32))) (hheld : Jvm.Lit.constHeld Z "java/lang/String" 7) (hcw : Jvm.Lit.compactW.before a0 Z = true) (Ab : Ary Z h0 b .char []) :
    DoesG l Z n0 (Em Z h0) ⟨"java/lang/String", "<init>", "([C)V"⟩ jdk_42_method_3_code 2 none [] { frames := 2, cells := 2, slots := 4, locals := 29 } #[(.ref a), (.ref b)] h0 (fun v h vm => v = none ∧ Keep h0 h [a] ∧ Em Z h vm ∧ ∃ t, Txt Z h a t []) := by
  refine DoesG.start (plainFor_of_name pn_4) ?_
  obtain ⟨S_zc, hzc, S_fm, hfm⟩ := id hS
  intro p e s m below meth c T X Y hs0 Gs
  replace X : Sd Z n0 0 jdk_42_method_3_code 2 "java/lang/String" "<init>" none h0 p l e { frames := 2, cells := 2, slots := 4, locals := 29 } (s.setVm s.vm) m #[(.ref a), (.ref b)] below meth c T [] 0 0 := X
  refine Wp.cast (g' := mkF m 0 #[.val (.ref a), .val (.ref b)] []) (by first | (simp [entryFrame, mkF, argsToLocals, Value.category, maxLocals]; done) | rfl) ?_
  refine w_aloadN X djdk_42_3_0 rfl (rfl) ?_
  refine w_aloadN X djdk_42_3_1 rfl (rfl) ?_
  refine w_iconst X (0 : Int32) djdk_42_3_2 rfl ?_
  refine w_aloadN X djdk_42_3_3 rfl (rfl) ?_
  refine w_arrlen X (0 : Int32) djdk_42_3_4 Ab rfl ?_
  refine w_aconstNull X djdk_42_3_5 ?_
  refine g_callI X Y (fun vm' hW => Gs.warm hW) djdk_42_3_6 rfl (wd_12 hw) (wd_13 hw) (wd_7 hw) (wd_15 hw) (by decide) (argsL := [(.ref b), (.int (0 : Int32)), (.int (0 : Int32)), .null]) (S := []) (m_si4_0 hw hS ga Ea Va Ca hheld hcw) pd_3 rfl rfl rfl (by decide) (Nat.le_of_ble_eq_true rfl) (by decide) (by decide) (fun T h1 v1 L1 u kk X Y q1 => ?_)
  obtain ⟨rfl, Kc1, M1, r1⟩ := q1
  show Wp p e below _ (T.setTop (mkF m 9 #[.val (.ref a), .val (.ref b)] []))
  exact g_retV X Y djdk_42_3_9 (fun vm' hW => ⟨rfl, Kc1, M1.warm hW, r1⟩) (by decide) (by decide)
set_option maxRecDepth 65536 in
set_option maxHeartbeats 40000000 in
theorem m_str_0 {l : Launch} {Z : State} {a0 : Array Value} {n0 : Nat} (hw : ∀ d ∈ tables_1, d.before a0 Z = true) {h0 : Heap} {zc : Int32} {fm : Value} {x c0 c1 c2 : Int32} (hU : own_U Z zc fm) (hheld : Jvm.Lit.constHeld Z "java/lang/String" 7) (hcw : Jvm.Lit.compactW.before a0 Z = true) (hx : x = (0 : Int32)) (nc0 : nar .char c0 = c0) (nc1 : nar .char c1 = c1) (nc2 : nar .char c2 = c2) :
    DoesG l Z n0 (Em Z h0) ⟨"com/example/whole_session/wholesession/RunCompareUtf8PinLaw", "str", "(ICCC)Ljava/lang/String;"⟩ method_3_code 4 (some (.object "java/lang/String")) [] { frames := 3, cells := 4, slots := 8, locals := 43 } #[(.int x), (.int c0), (.int c1), (.int c2)] h0 (fun v h vm => ∃ a t, v = some (.ref a) ∧ Txt Z h a t [] ∧ Keep h0 h [] ∧ Em Z h vm) := by
  refine DoesG.start (plainFor_of_name pn_1) ?_
  obtain ⟨hS, S_ad, S_hi, S_lo⟩ := id hU
  obtain ⟨S_zc, hzc, S_fm, hfm⟩ := id hS
  intro p e s m below meth c T X Y hs0 Gs
  replace X : Sd Z n0 0 method_3_code 4 "com/example/whole_session/wholesession/RunCompareUtf8PinLaw" "str" (some (.object "java/lang/String")) h0 p l e { frames := 3, cells := 4, slots := 8, locals := 43 } (s.setVm s.vm) m #[(.int x), (.int c0), (.int c1), (.int c2)] below meth c T [] 0 0 := X
  refine Wp.cast (g' := mkF m 0 #[.val (.int x), .val (.int c0), .val (.int c1), .val (.int c2)] []) (by first | (simp [entryFrame, mkF, argsToLocals, Value.category, maxLocals]; done) | rfl) ?_
  refine w_iloadN X d3_0 rfl ?_
  refine w_ifne X d3_1 (fun hc => absurd hx hc) (fun _ => ?_)
  refine w_new X d3_4 (wd_5 hw) (wd_6 hw) (wd_7 hw) (by decide) (by decide) (fun T h1 b1 g1 gn1 X E1 A1 D1 => ?_)
  have sz_b1 : h0.size ≤ b1 := Nat.le_trans (Keep.refl h0 []).1 (Nat.le_of_eq g1.symm)
  have K1 : Keep h0 h1 [] := (Keep.refl h0 []).ext E1
  refine w_dup X d3_7 rfl ?_
  refine w_iconst X (0 : Int32) d3_8 rfl ?_
  refine w_newarr X d3_9 (wd_8 hw) 0 0 (by decide) (by decide) (by decide) (by decide) (by decide) (by decide) (fun T h2 b2 g2 gn2 X E2 A2 => ?_)
  replace A2 : Ary Z h2 b2 .char [] := A2
  have sz_b2 : h0.size ≤ b2 := Nat.le_trans K1.1 (Nat.le_of_eq g2.symm)
  have K2 : Keep h0 h2 [] := K1.ext E2
  have f3 := (A1.ext E2)
  have f4 := ((show Fld Z h1 b1 "java/lang/String" "value" "[B" .null from D1 (Or.inr (wd_34 hw)) (ty := (.array .byte)) (by decide)).ext E2)
  have f5 := ((show Fld Z h1 b1 "java/lang/String" "coder" "B" (.int (0 : Int32)) from D1 (Or.inr (wd_32 hw)) (ty := .byte) (by decide)).ext E2)
  refine g_callI X Y (fun vm' hW => (((Gs.ext E1).ext E2)).warm hW) d3_11 rfl (wd_9 hw) (wd_10 hw) (wd_7 hw) (wd_11 hw) (by decide) (argsL := [(.ref b2)]) (S := [(.ref b1)]) (m_si_0 hw hS gn1 f3 f4 f5 hheld hcw A2) pd_4 rfl rfl rfl (by decide) (Nat.le_of_ble_eq_true rfl) (by decide) (by decide) (fun T h3 v3 L3 u kk X Y q3 => ?_)
  obtain ⟨rfl, Kc3, M3, t3, Tx3⟩ := q3
  have K6 : Keep h0 h3 [] := K2.trans Kc3 (fun x hx => by cases List.mem_singleton.mp hx; exact (Or.inr sz_b1))
  show Wp p e below _ (T.setTop (mkF m 14 #[.val (.int x), .val (.int c0), .val (.int c1), .val (.int c2)] [(.ref b1)]))
  exact g_retR X Y rfl (rfl) rfl d3_14 (fun vm' hW => ⟨_, _, rfl, Tx3, K6, M3.warm hW⟩) (by decide) (by decide)
set_option maxRecDepth 65536 in
set_option maxHeartbeats 40000000 in
theorem m_c5_1 {l : Launch} {Z : State} {a0 : Array Value} {n0 : Nat} (hw : ∀ d ∈ tables_1, d.before a0 Z = true) {h0 : Heap} {a b : Addr} {c0 : Int32} (Aa : Ary Z h0 a .char [(.int c0)]) (Ab : Ary Z h0 b .byte [(.int (0 : Int32))]) (gb : n0 ≤ b) (nab : a ≠ b) (l0 : ¬ (255 : Int32) < c0) :
    Does l Z n0 ⟨"java/lang/StringUTF16", "compress", "([CI[BII)I"⟩ jdk_52_method_21_code 7 (some .int) [] { frames := 0, cells := 0, slots := 0, locals := 0 } #[(.ref a), (.int (0 : Int32)), (.ref b), (.int (0 : Int32)), (.int (1 : Int32))] h0 (fun v h => v = some (.int (1 : Int32)) ∧ Ary Z h b .byte [(.int (c0.toInt8.toInt32))] ∧ Keep h0 h [b]) := by
  refine Does.start (plainFor_of_name pn_5) ?_
  intro p e s m below meth c T X
  replace X : Sd Z n0 0 jdk_52_method_21_code 7 "java/lang/StringUTF16" "compress" (some .int) h0 p l e { frames := 0, cells := 0, slots := 0, locals := 0 } s m #[(.ref a), (.int (0 : Int32)), (.ref b), (.int (0 : Int32)), (.int (1 : Int32))] below meth c T [] 0 0 := X
  refine Wp.cast (g' := mkF m 0 #[.val (.ref a), .val (.int (0 : Int32)), .val (.ref b), .val (.int (0 : Int32)), .val (.int (1 : Int32)), .unset, .unset] []) (by first | (simp [entryFrame, mkF, argsToLocals, Value.category, maxLocals]; done) | rfl) ?_
  refine w_iconst X (0 : Int32) djdk_52_21_0 rfl ?_
  refine w_istore X #[.val (.ref a), .val (.int (0 : Int32)), .val (.ref b), .val (.int (0 : Int32)), .val (.int (1 : Int32)), .val (.int (0 : Int32)), .unset] djdk_52_21_1 rfl ?_
  refine w_iload X djdk_52_21_3 rfl ?_
  refine w_iload X djdk_52_21_5 rfl ?_
  refine w_icmpge X djdk_52_21_7 (fun hc => absurd (by decide) hc) (fun _ => ?_)
  refine w_aloadN X djdk_52_21_10 rfl (rfl) ?_
  refine w_iloadN X djdk_52_21_11 rfl ?_
  refine w_caload X djdk_52_21_12 Aa (by decide) rfl ?_
  refine w_istore X #[.val (.ref a), .val (.int (0 : Int32)), .val (.ref b), .val (.int (0 : Int32)), .val (.int (1 : Int32)), .val (.int (0 : Int32)), .val (.int c0)] djdk_52_21_13 rfl ?_
  refine w_iload X djdk_52_21_15 rfl ?_
  refine w_sipush X (255 : Int32) djdk_52_21_17 rfl ?_
  refine w_icmple X djdk_52_21_20 (fun _ => ?_) (fun hc => absurd hc l0)
  refine w_aloadN X djdk_52_21_26 rfl (rfl) ?_
  refine w_iloadN X djdk_52_21_27 rfl ?_
  refine w_iload X djdk_52_21_28 rfl ?_
  refine w_i2b X djdk_52_21_30 ?_
  refine w_bastore X djdk_52_21_31 Ab (by decide) rfl gb (.int (c0.toInt8.toInt32)) (congrArg Value.int (own_nar_b _)) [(.int (c0.toInt8.toInt32))] rfl (fun T h1 X W1 A1 => ?_)
  have K1 : Keep h0 h1 [b] := (Keep.refl h0 [b]).wr W1 (Or.inl (List.mem_of_getElem? (i := 0) rfl))
  refine w_iinc X (1 : Int32) #[.val (.ref a), .val (.int (1 : Int32)), .val (.ref b), .val (.int (0 : Int32)), .val (.int (1 : Int32)), .val (.int (0 : Int32)), .val (.int c0)] djdk_52_21_32 rfl rfl rfl ?_
  refine w_iinc X (1 : Int32) #[.val (.ref a), .val (.int (1 : Int32)), .val (.ref b), .val (.int (1 : Int32)), .val (.int (1 : Int32)), .val (.int (0 : Int32)), .val (.int c0)] djdk_52_21_35 rfl rfl rfl ?_
  refine w_iinc X (1 : Int32) #[.val (.ref a), .val (.int (1 : Int32)), .val (.ref b), .val (.int (1 : Int32)), .val (.int (1 : Int32)), .val (.int (1 : Int32)), .val (.int c0)] djdk_52_21_38 rfl rfl rfl ?_
  refine w_goto X djdk_52_21_41 ?_
  refine w_iload X djdk_52_21_3 rfl ?_
  refine w_iload X djdk_52_21_5 rfl ?_
  refine w_icmpge X djdk_52_21_7 (fun _ => ?_) (fun hc => absurd hc Int32.lt_irrefl)
  refine w_iload X djdk_52_21_44 rfl ?_
  exact w_retI X djdk_52_21_46 ⟨rfl, A1, K1⟩ (by decide) (by decide)
set_option maxRecDepth 65536 in
set_option maxHeartbeats 40000000 in
theorem m_c3_1 {l : Launch} {Z : State} {a0 : Array Value} {n0 : Nat} (hw : ∀ d ∈ tables_1, d.before a0 Z = true) {h0 : Heap} {a : Addr} {c0 : Int32} (Aa : Ary Z h0 a .char [(.int c0)]) (l0 : ¬ (255 : Int32) < c0) :
    Does l Z n0 ⟨"java/lang/StringUTF16", "compress", "([CII)[B"⟩ jdk_52_method_16_code 6 (some (.array .byte)) [] { frames := 1, cells := 1, slots := 1, locals := 18 } #[(.ref a), (.int (0 : Int32)), (.int (1 : Int32))] h0 (fun v h => ∃ t, v = some (.ref t) ∧ h0.size ≤ t ∧ n0 ≤ t ∧ Ary Z h t .byte [(.int (c0.toInt8.toInt32))] ∧ Keep h0 h []) := by
  refine Does.start (plainFor_of_name pn_5) ?_
  intro p e s m below meth c T X
  replace X : Sd Z n0 0 jdk_52_method_16_code 6 "java/lang/StringUTF16" "compress" (some (.array .byte)) h0 p l e { frames := 1, cells := 1, slots := 1, locals := 18 } s m #[(.ref a), (.int (0 : Int32)), (.int (1 : Int32))] below meth c T [] 0 0 := X
  refine Wp.cast (g' := mkF m 0 #[.val (.ref a), .val (.int (0 : Int32)), .val (.int (1 : Int32)), .unset, .unset, .unset] []) (by first | (simp [entryFrame, mkF, argsToLocals, Value.category, maxLocals]; done) | rfl) ?_
  refine w_iloadN X djdk_52_16_0 rfl ?_
  refine w_newarr X djdk_52_16_1 (wd_24 hw) 1 1 (by decide) (by decide) (by decide) (by decide) (by decide) (by decide) (fun T h1 b1 g1 gn1 X E1 A1 => ?_)
  replace A1 : Ary Z h1 b1 .byte [(.int (0 : Int32))] := A1
  have sz_b1 : h0.size ≤ b1 := Nat.le_trans (Keep.refl h0 []).1 (Nat.le_of_eq g1.symm)
  have K1 : Keep h0 h1 [] := (Keep.refl h0 []).ext E1
  refine w_astoreN X #[.val (.ref a), .val (.int (0 : Int32)), .val (.int (1 : Int32)), .val (.ref b1), .unset, .unset] djdk_52_16_3 (rfl) rfl ?_
  refine w_aloadN X djdk_52_16_4 rfl (rfl) ?_
  refine w_iloadN X djdk_52_16_5 rfl ?_
  refine w_aloadN X djdk_52_16_6 rfl (rfl) ?_
  refine w_iconst X (0 : Int32) djdk_52_16_7 rfl ?_
  refine w_iloadN X djdk_52_16_8 rfl ?_
  have f2 := (Aa.ext E1)
  refine w_callS X djdk_52_16_9 (wd_25 hw) (wd_26 hw) (wd_22 hw) (wd_27 hw) (by decide) (argsL := [(.ref a), (.int (0 : Int32)), (.ref b1), (.int (0 : Int32)), (.int (1 : Int32))]) (S := []) (m_c5_1 hw f2 A1 gn1 (Nat.ne_of_lt (Nat.lt_of_lt_of_le Aa.lt (Nat.le_of_eq g1.symm))) l0) pd_5 rfl rfl rfl (by decide) (Nat.le_of_ble_eq_true rfl) (by decide) (by decide) (fun T h2 v2 L2 X q2 => ?_)
  obtain ⟨rfl, Ac2, Kc2⟩ := q2
  have K3 : Keep h0 h2 [] := K1.trans Kc2 (fun x hx => by cases List.mem_singleton.mp hx; exact (Or.inr sz_b1))
  show Wp p e below _ (T.setTop (mkF m 12 #[.val (.ref a), .val (.int (0 : Int32)), .val (.int (1 : Int32)), .val (.ref b1), .unset, .unset] [(.int (1 : Int32))]))
  refine w_istore X #[.val (.ref a), .val (.int (0 : Int32)), .val (.int (1 : Int32)), .val (.ref b1), .val (.int (1 : Int32)), .unset] djdk_52_16_12 rfl ?_
  refine w_iload X djdk_52_16_14 rfl ?_
  refine w_iloadN X djdk_52_16_16 rfl ?_
  refine w_icmpeq X djdk_52_16_17 (fun _ => ?_) (fun hc => absurd rfl hc)
  refine w_aloadN X djdk_52_16_57 rfl (rfl) ?_
  exact w_retR X rfl (rfl) rfl djdk_52_16_58 ⟨_, rfl, sz_b1, gn1, Ac2, K3⟩ (by decide) (by decide)
set_option maxRecDepth 65536 in
set_option maxHeartbeats 40000000 in
theorem m_cfal_1 {l : Launch} {Z : State} {a0 : Array Value} {n0 : Nat} (hw : ∀ d ∈ tables_1, d.before a0 Z = true) {h0 : Heap} {a : Addr} {v0 : Value} (Aa : Ary Z h0 a .byte [v0]) :
    Does l Z n0 ⟨"java/lang/StringUTF16", "coderFromArrayLen", "([BI)B"⟩ jdk_52_method_15_code 2 (some .byte) [] { frames := 0, cells := 0, slots := 0, locals := 0 } #[(.ref a), (.int (1 : Int32))] h0 (fun v h => v = some (.int (0 : Int32)) ∧ h0 = h) := by
  refine Does.start (plainFor_of_name pn_5) ?_
  intro p e s m below meth c T X
  replace X : Sd Z n0 0 jdk_52_method_15_code 2 "java/lang/StringUTF16" "coderFromArrayLen" (some .byte) h0 p l e { frames := 0, cells := 0, slots := 0, locals := 0 } s m #[(.ref a), (.int (1 : Int32))] below meth c T [] 0 0 := X
  refine Wp.cast (g' := mkF m 0 #[.val (.ref a), .val (.int (1 : Int32))] []) (by first | (simp [entryFrame, mkF, argsToLocals, Value.category, maxLocals]; done) | rfl) ?_
  refine w_iloadN X djdk_52_15_0 rfl ?_
  refine w_aloadN X djdk_52_15_1 rfl (rfl) ?_
  refine w_arrlen X (1 : Int32) djdk_52_15_2 Aa rfl ?_
  refine w_isub X djdk_52_15_3 ?_
  refine w_bipush X (31 : Int32) djdk_52_15_4 rfl ?_
  refine w_iushr X djdk_52_15_6 ?_
  refine w_i2b X djdk_52_15_7 ?_
  exact w_ret_byte X (0 : Int32) (by decide) djdk_52_15_8 ⟨rfl, rfl⟩ (by decide) (by decide)
set_option maxRecDepth 65536 in
set_option maxHeartbeats 40000000 in
theorem m_si4_1 {l : Launch} {Z : State} {a0 : Array Value} {n0 : Nat} (hw : ∀ d ∈ tables_1, d.before a0 Z = true) {h0 : Heap} {zc : Int32} {fm : Value} {a b : Addr} {c0 : Int32} (hS : own_S Z zc fm) (ga : n0 ≤ a) (Ea : Exa Z h0 a "java/lang/String") (Va : Fld Z h0 a "java/lang/String" "value" "[B" .null) (Ca : Fld Z h0 a "java/lang/String" "coder" "B" (.int (0 : Int32))) (Ab : Ary Z h0 b .char [(.int c0)]) (l0 : ¬ (255 : Int32) < c0) :
    Does l Z n0 ⟨"java/lang/String", "<init>", "([CIILjava/lang/Void;)V"⟩ jdk_42_method_149_code 6 none [] { frames := 2, cells := 1, slots := 1, locals := 35 } #[(.ref a), (.ref b), (.int (0 : Int32)), (.int (1 : Int32)), .null] h0 (fun v h => v = none ∧ Exa Z h a "java/lang/String" ∧ Fld Z h a "java/lang/String" "coder" "B" (.int (0 : Int32)) ∧ Keep h0 h [a] ∧ ∃ t, h0.size ≤ t ∧ n0 ≤ t ∧ Fld Z h a "java/lang/String" "value" "[B" (.ref t) ∧ Ary Z h t .byte [(.int (c0.toInt8.toInt32))]) := by
  refine Does.start (plainFor_of_name pn_4) ?_
  obtain ⟨S_zc, hzc, S_fm, hfm⟩ := id hS
  intro p e s m below meth c T X
  replace X : Sd Z n0 0 jdk_42_method_149_code 6 "java/lang/String" "<init>" none h0 p l e { frames := 2, cells := 1, slots := 1, locals := 35 } s m #[(.ref a), (.ref b), (.int (0 : Int32)), (.int (1 : Int32)), .null] below meth c T [] 0 0 := X
  refine Wp.cast (g' := mkF m 0 #[.val (.ref a), .val (.ref b), .val (.int (0 : Int32)), .val (.int (1 : Int32)), .val .null, .unset] []) (by first | (simp [entryFrame, mkF, argsToLocals, Value.category, maxLocals]; done) | rfl) ?_
  refine w_aloadN X djdk_42_149_0 rfl (rfl) ?_
  refine w_initO X djdk_42_149_1 (wd_16 hw) (wd_17 hw) (wd_18 hw) rfl (by decide) (Nat.le_of_ble_eq_true rfl) (fun T X => ?_)
  refine w_iloadN X djdk_42_149_4 rfl ?_
  refine w_ifne X djdk_42_149_5 (fun _ => ?_) (fun hc => absurd hc (by decide))
  refine w_getS X djdk_42_149_27 (host := "") (Or.inl (wd_19 hw)) Via.refl (S_zc.ext X.old.2) (fun T X => ?_)
  refine w_ifeq X djdk_42_149_30 (fun hc => absurd hc hzc) (fun _ => ?_)
  refine w_aloadN X djdk_42_149_33 rfl (rfl) ?_
  refine w_iloadN X djdk_42_149_34 rfl ?_
  refine w_iloadN X djdk_42_149_35 rfl ?_
  refine w_callS X djdk_42_149_36 (wd_20 hw) (wd_21 hw) (wd_22 hw) (wd_23 hw) (by decide) (argsL := [(.ref b), (.int (0 : Int32)), (.int (1 : Int32))]) (S := []) (m_c3_1 hw Ab l0) pd_6 rfl rfl rfl (by decide) (Nat.le_of_ble_eq_true rfl) (by decide) (by decide) (fun T h1 v1 L1 X q1 => ?_)
  obtain ⟨t1, rfl, gt1, gn1, At1, Kc1⟩ := q1
  have K1 : Keep h0 h1 [a] := (Keep.refl h0 [a]).trans Kc1 (fun x hx => nomatch hx)
  have sz_t1 : h0.size ≤ t1 := Nat.le_trans (Keep.refl h0 [a]).1 gt1
  show Wp p e below _ (T.setTop (mkF m 39 #[.val (.ref a), .val (.ref b), .val (.int (0 : Int32)), .val (.int (1 : Int32)), .val .null, .unset] [(.ref t1)]))
  refine w_astore X #[.val (.ref a), .val (.ref b), .val (.int (0 : Int32)), .val (.int (1 : Int32)), .val .null, .val (.ref t1)] djdk_42_149_39 (rfl) rfl ?_
  refine w_aloadN X djdk_42_149_41 rfl (rfl) ?_
  refine w_aload X djdk_42_149_42 rfl (rfl) ?_
  refine w_iloadN X djdk_42_149_44 rfl ?_
  refine w_callS X djdk_42_149_45 (wd_28 hw) (wd_29 hw) (wd_22 hw) (wd_30 hw) (by decide) (argsL := [(.ref t1), (.int (1 : Int32))]) (S := [(.ref a)]) (m_cfal_1 hw At1) pd_7 rfl rfl rfl (by decide) (Nat.le_of_ble_eq_true rfl) (by decide) (by decide) (fun T h2 v2 L2 X q2 => ?_)
  obtain ⟨rfl, rfl⟩ := q2
  show Wp p e below _ (T.setTop (mkF m 48 #[.val (.ref a), .val (.ref b), .val (.int (0 : Int32)), .val (.int (1 : Int32)), .val .null, .val (.ref t1)] [(.int (0 : Int32)), (.ref a)]))
  have f2 := (Ea.keep Kc1)
  have f3 := (Ca.keep Kc1 (List.not_mem_nil))
  refine w_putFN X djdk_42_149_48 (wd_31 hw) Via.refl f3 f2 (Or.inr ⟨(wd_32 hw), rfl, rfl⟩) (wd_6 hw) (ty := .byte) (by decide) (.int (0 : Int32)) rfl (by decide) ga (fun T h3 X W3 => ?_)
  have f4 := f3.same W3
  have K5 : Keep h0 h3 [a] := K1.wr W3 (Or.inl (List.mem_of_getElem? (i := 0) rfl))
  refine w_aloadN X djdk_42_149_51 rfl (rfl) ?_
  refine w_aload X djdk_42_149_52 rfl (rfl) ?_
  have f6 := (f2.wr W3)
  have f7 := ((Va.keep Kc1 (List.not_mem_nil)).other W3 (Or.inr (slot_ne (Or.inr (wd_34 hw)) (Or.inr (wd_32 hw)) (by decide) (t := (.array .byte)) (t' := .byte) (by decide) (by decide))))
  refine w_putF X djdk_42_149_54 (host := "") (Or.inl (wd_33 hw)) Via.refl f7 f6 (Or.inr ⟨(wd_34 hw), rfl, rfl⟩) (wd_6 hw) (ty := (.array .byte)) (by decide) rfl rfl ga (fun T h4 X W4 => ?_)
  have f8 := f7.same W4
  have K9 : Keep h0 h4 [a] := K5.wr W4 (Or.inl (List.mem_of_getElem? (i := 0) rfl))
  have f10 := (f6.wr W4)
  have f11 := (f4.other W4 (Or.inr (slot_ne (Or.inr (wd_32 hw)) (Or.inr (wd_34 hw)) (by decide) (t := .byte) (t' := (.array .byte)) (by decide) (by decide))))
  have f12 := ((At1.other W3 (Ne.symm (Nat.ne_of_lt (Nat.lt_of_lt_of_le Ea.lt gt1)))).other W4 (Ne.symm (Nat.ne_of_lt (Nat.lt_of_lt_of_le Ea.lt gt1))))
  exact w_retV X djdk_42_149_57 ⟨rfl, f10, f11, K9, _, sz_t1, gn1, f8, f12⟩ (by decide) (by decide)
set_option maxRecDepth 65536 in
set_option maxHeartbeats 40000000 in
theorem m_si_1 {l : Launch} {Z : State} {a0 : Array Value} {n0 : Nat} (hw : ∀ d ∈ tables_1, d.before a0 Z = true) {h0 : Heap} {zc : Int32} {fm : Value} {a b : Addr} {c0 : Int32} (hS : own_S Z zc fm) (ga : n0 ≤ a) (Ea : Exa Z h0 a "java/lang/String") (Va : Fld Z h0 a "java/lang/String" "value" "[B" .null) (Ca : Fld Z h0 a "java/lang/String" "coder" "B" (.int (0 : Int32))) (Ab : Ary Z h0 b .char [(.int c0)]) (l0 : ¬ (255 : Int32) < c0) :
    Does l Z n0 ⟨"java/lang/String", "<init>", "([C)V"⟩ jdk_42_method_3_code 2 none [] { frames := 5, cells := 2, slots := 3, locals := 74 } #[(.ref a), (.ref b)] h0 (fun v h => v = none ∧ Exa Z h a "java/lang/String" ∧ Fld Z h a "java/lang/String" "coder" "B" (.int (0 : Int32)) ∧ Keep h0 h [a] ∧ ∃ t, h0.size ≤ t ∧ n0 ≤ t ∧ Fld Z h a "java/lang/String" "value" "[B" (.ref t) ∧ Ary Z h t .byte [(.int (c0.toInt8.toInt32))]) := by
  refine Does.start (plainFor_of_name pn_4) ?_
  obtain ⟨S_zc, hzc, S_fm, hfm⟩ := id hS
  intro p e s m below meth c T X
  replace X : Sd Z n0 0 jdk_42_method_3_code 2 "java/lang/String" "<init>" none h0 p l e { frames := 5, cells := 2, slots := 3, locals := 74 } s m #[(.ref a), (.ref b)] below meth c T [] 0 0 := X
  refine Wp.cast (g' := mkF m 0 #[.val (.ref a), .val (.ref b)] []) (by first | (simp [entryFrame, mkF, argsToLocals, Value.category, maxLocals]; done) | rfl) ?_
  refine w_aloadN X djdk_42_3_0 rfl (rfl) ?_
  refine w_aloadN X djdk_42_3_1 rfl (rfl) ?_
  refine w_iconst X (0 : Int32) djdk_42_3_2 rfl ?_
  refine w_aloadN X djdk_42_3_3 rfl (rfl) ?_
  refine w_arrlen X (1 : Int32) djdk_42_3_4 Ab rfl ?_
  refine w_aconstNull X djdk_42_3_5 ?_
  refine w_callI X djdk_42_3_6 rfl (wd_12 hw) (wd_13 hw) (wd_7 hw) (wd_15 hw) (by decide) (argsL := [(.ref b), (.int (0 : Int32)), (.int (1 : Int32)), .null]) (S := []) (m_si4_1 hw hS ga Ea Va Ca Ab l0) pd_3 rfl rfl rfl (by decide) (Nat.le_of_ble_eq_true rfl) (by decide) (by decide) (fun T h1 v1 L1 X q1 => ?_)
  obtain ⟨rfl, r1⟩ := q1
  show Wp p e below _ (T.setTop (mkF m 9 #[.val (.ref a), .val (.ref b)] []))
  exact w_retV X djdk_42_3_9 ⟨rfl, r1⟩ (by decide) (by decide)
set_option maxRecDepth 65536 in
set_option maxHeartbeats 40000000 in
theorem m_c5_1_0 {l : Launch} {Z : State} {a0 : Array Value} {n0 : Nat} (hw : ∀ d ∈ tables_1, d.before a0 Z = true) {h0 : Heap} {a b : Addr} {c0 : Int32} (Aa : Ary Z h0 a .char [(.int c0)]) (Ab : Ary Z h0 b .byte [(.int (0 : Int32))]) (gb : n0 ≤ b) (nab : a ≠ b)  (gk : (255 : Int32) < c0) :
    Does l Z n0 ⟨"java/lang/StringUTF16", "compress", "([CI[BII)I"⟩ jdk_52_method_21_code 7 (some .int) [] { frames := 0, cells := 0, slots := 0, locals := 0 } #[(.ref a), (.int (0 : Int32)), (.ref b), (.int (0 : Int32)), (.int (1 : Int32))] h0 (fun v h => v = some (.int (0 : Int32)) ∧ Keep h0 h [b]) := by
  refine Does.start (plainFor_of_name pn_5) ?_
  intro p e s m below meth c T X
  replace X : Sd Z n0 0 jdk_52_method_21_code 7 "java/lang/StringUTF16" "compress" (some .int) h0 p l e { frames := 0, cells := 0, slots := 0, locals := 0 } s m #[(.ref a), (.int (0 : Int32)), (.ref b), (.int (0 : Int32)), (.int (1 : Int32))] below meth c T [] 0 0 := X
  refine Wp.cast (g' := mkF m 0 #[.val (.ref a), .val (.int (0 : Int32)), .val (.ref b), .val (.int (0 : Int32)), .val (.int (1 : Int32)), .unset, .unset] []) (by first | (simp [entryFrame, mkF, argsToLocals, Value.category, maxLocals]; done) | rfl) ?_
  refine w_iconst X (0 : Int32) djdk_52_21_0 rfl ?_
  refine w_istore X #[.val (.ref a), .val (.int (0 : Int32)), .val (.ref b), .val (.int (0 : Int32)), .val (.int (1 : Int32)), .val (.int (0 : Int32)), .unset] djdk_52_21_1 rfl ?_
  refine w_iload X djdk_52_21_3 rfl ?_
  refine w_iload X djdk_52_21_5 rfl ?_
  refine w_icmpge X djdk_52_21_7 (fun hc => absurd (by decide) hc) (fun _ => ?_)
  refine w_aloadN X djdk_52_21_10 rfl (rfl) ?_
  refine w_iloadN X djdk_52_21_11 rfl ?_
  refine w_caload X djdk_52_21_12 Aa (by decide) rfl ?_
  refine w_istore X #[.val (.ref a), .val (.int (0 : Int32)), .val (.ref b), .val (.int (0 : Int32)), .val (.int (1 : Int32)), .val (.int (0 : Int32)), .val (.int c0)] djdk_52_21_13 rfl ?_
  refine w_iload X djdk_52_21_15 rfl ?_
  refine w_sipush X (255 : Int32) djdk_52_21_17 rfl ?_
  refine w_icmple X djdk_52_21_20 (fun hc => absurd gk hc) (fun _ => ?_)
  refine w_iload X djdk_52_21_23 rfl ?_
  exact w_retI X djdk_52_21_25 ⟨rfl, (Keep.refl h0 [b])⟩ (by decide) (by decide)
set_option maxRecDepth 65536 in
set_option maxHeartbeats 40000000 in
theorem m_nbl_1 {l : Launch} {Z : State} {a0 : Array Value} {n0 : Nat} (hw : ∀ d ∈ tables_1, d.before a0 Z = true) {h0 : Heap}   :
    Does l Z n0 ⟨"java/lang/StringUTF16", "newBytesLength", "(I)I"⟩ jdk_52_method_3_code 1 (some .int) [] { frames := 0, cells := 0, slots := 0, locals := 0 } #[(.int (1 : Int32))] h0 (fun v h => v = some (.int (2 : Int32)) ∧ h0 = h) := by
  refine Does.start (plainFor_of_name pn_5) ?_
  intro p e s m below meth c T X
  replace X : Sd Z n0 0 jdk_52_method_3_code 1 "java/lang/StringUTF16" "newBytesLength" (some .int) h0 p l e { frames := 0, cells := 0, slots := 0, locals := 0 } s m #[(.int (1 : Int32))] below meth c T [] 0 0 := X
  refine Wp.cast (g' := mkF m 0 #[.val (.int (1 : Int32))] []) (by first | (simp [entryFrame, mkF, argsToLocals, Value.category, maxLocals]; done) | rfl) ?_
  refine w_iloadN X djdk_52_3_0 rfl ?_
  refine w_ifge X djdk_52_3_1 (fun _ => ?_) (fun hc => absurd hc (by decide))
  refine w_iloadN X djdk_52_3_12 rfl ?_
  refine w_ldcI X djdk_52_3_13 (wd_110 hw) ?_
  refine w_icmplt X djdk_52_3_15 (fun _ => ?_) (fun hc => absurd (by decide) hc)
  refine w_iloadN X djdk_52_3_55 rfl ?_
  refine w_iconst X (1 : Int32) djdk_52_3_56 rfl ?_
  refine w_ishl X djdk_52_3_57 ?_
  exact w_retI X djdk_52_3_58 ⟨rfl, rfl⟩ (by decide) (by decide)
set_option maxRecDepth 65536 in
set_option maxHeartbeats 40000000 in
theorem m_nbf_1 {l : Launch} {Z : State} {a0 : Array Value} {n0 : Nat} (hw : ∀ d ∈ tables_1, d.before a0 Z = true) {h0 : Heap}   :
    Does l Z n0 ⟨"java/lang/StringUTF16", "newBytesFor", "(I)[B"⟩ jdk_52_method_2_code 1 (some (.array .byte)) [] { frames := 1, cells := 1, slots := 2, locals := 12 } #[(.int (1 : Int32))] h0 (fun v h => ∃ t, v = some (.ref t) ∧ h0.size ≤ t ∧ n0 ≤ t ∧ Ary Z h t .byte [(.int (0 : Int32)), (.int (0 : Int32))] ∧ Keep h0 h []) := by
  refine Does.start (plainFor_of_name pn_5) ?_
  intro p e s m below meth c T X
  replace X : Sd Z n0 0 jdk_52_method_2_code 1 "java/lang/StringUTF16" "newBytesFor" (some (.array .byte)) h0 p l e { frames := 1, cells := 1, slots := 2, locals := 12 } s m #[(.int (1 : Int32))] below meth c T [] 0 0 := X
  refine Wp.cast (g' := mkF m 0 #[.val (.int (1 : Int32))] []) (by first | (simp [entryFrame, mkF, argsToLocals, Value.category, maxLocals]; done) | rfl) ?_
  refine w_iloadN X djdk_52_2_0 rfl ?_
  refine w_callS X djdk_52_2_1 (wd_107 hw) (wd_108 hw) (wd_22 hw) (wd_109 hw) (by decide) (argsL := [(.int (1 : Int32))]) (S := []) (m_nbl_1 hw) pd_8 rfl rfl rfl (by decide) (Nat.le_of_ble_eq_true rfl) (by decide) (by decide) (fun T h1 v1 L1 X q1 => ?_)
  obtain ⟨rfl, rfl⟩ := q1
  show Wp p e below _ (T.setTop (mkF m 4 #[.val (.int (1 : Int32))] [(.int (2 : Int32))]))
  refine w_newarr X djdk_52_2_4 (wd_24 hw) 2 2 (by decide) (by decide) (by decide) (by decide) (by decide) (by decide) (fun T h2 b2 g2 gn2 X E2 A2 => ?_)
  replace A2 : Ary Z h2 b2 .byte [(.int (0 : Int32)), (.int (0 : Int32))] := A2
  have sz_b2 : h0.size ≤ b2 := Nat.le_trans (Keep.refl h0 []).1 (Nat.le_of_eq g2.symm)
  have K1 : Keep h0 h2 [] := (Keep.refl h0 []).ext E2
  exact w_retR X rfl (rfl) rfl djdk_52_2_6 ⟨_, rfl, sz_b2, gn2, A2, K1⟩ (by decide) (by decide)
set_option maxRecDepth 65536 in
set_option maxHeartbeats 40000000 in
theorem m_put_1_0 {l : Launch} {Z : State} {a0 : Array Value} {n0 : Nat} (hw : ∀ d ∈ tables_1, d.before a0 Z = true) {h0 : Heap} {a : Addr} {x0 x1 d : Int32} {zc : Int32} {fm : Value} (hU : own_U Z zc fm) (ga : n0 ≤ a) (Aa : Ary Z h0 a .byte [(.int x0), (.int x1)]) :
    Does l Z n0 ⟨"java/lang/StringUTF16", "putChar", "([BII)V"⟩ jdk_52_method_4_code 3 none [] { frames := 0, cells := 0, slots := 0, locals := 0 } #[(.ref a), (.int (0 : Int32)), (.int d)] h0 (fun v h => v = none ∧ Ary Z h a .byte [(.int ((d >>> ((0 : Int32) &&& 31)).toInt8.toInt32)), (.int ((d >>> ((8 : Int32) &&& 31)).toInt8.toInt32))] ∧ Keep h0 h [a]) := by
  refine Does.start (plainFor_of_name pn_5) ?_
  obtain ⟨hS, S_ad, S_hi, S_lo⟩ := id hU
  obtain ⟨S_zc, hzc, S_fm, hfm⟩ := id hS
  intro p e s m below meth c T X
  replace X : Sd Z n0 0 jdk_52_method_4_code 3 "java/lang/StringUTF16" "putChar" none h0 p l e { frames := 0, cells := 0, slots := 0, locals := 0 } s m #[(.ref a), (.int (0 : Int32)), (.int d)] below meth c T [] 0 0 := X
  refine Wp.cast (g' := mkF m 0 #[.val (.ref a), .val (.int (0 : Int32)), .val (.int d)] []) (by first | (simp [entryFrame, mkF, argsToLocals, Value.category, maxLocals]; done) | rfl) ?_
  refine w_getS X djdk_52_4_0 (host := "") (Or.inl (wd_114 hw)) Via.refl (S_ad.ext X.old.2) (fun T X => ?_)
  refine w_ifne X djdk_52_4_3 (fun _ => ?_) (fun hc => absurd hc (by decide))
  refine w_iloadN X djdk_52_4_28 rfl ?_
  refine w_iconst X (1 : Int32) djdk_52_4_29 rfl ?_
  refine w_ishl X djdk_52_4_30 ?_
  refine w_istoreN X #[.val (.ref a), .val (.int (0 : Int32)), .val (.int d)] djdk_52_4_31 rfl ?_
  refine w_aloadN X djdk_52_4_32 rfl (rfl) ?_
  refine w_iloadN X djdk_52_4_33 rfl ?_
  refine w_iinc X (1 : Int32) #[.val (.ref a), .val (.int (1 : Int32)), .val (.int d)] djdk_52_4_34 rfl rfl rfl ?_
  refine w_iloadN X djdk_52_4_37 rfl ?_
  refine w_getS X djdk_52_4_38 (host := "") (Or.inl (wd_115 hw)) Via.refl (S_hi.ext X.old.2) (fun T X => ?_)
  refine w_ishr X djdk_52_4_41 ?_
  refine w_i2b X djdk_52_4_42 ?_
  refine w_bastore X djdk_52_4_43 Aa (by decide) rfl ga (.int ((d >>> ((0 : Int32) &&& 31)).toInt8.toInt32)) (congrArg Value.int (own_nar_b _)) [(.int ((d >>> ((0 : Int32) &&& 31)).toInt8.toInt32)), (.int x1)] rfl (fun T h1 X W1 A1 => ?_)
  have K1 : Keep h0 h1 [a] := (Keep.refl h0 [a]).wr W1 (Or.inl (List.mem_of_getElem? (i := 0) rfl))
  refine w_aloadN X djdk_52_4_44 rfl (rfl) ?_
  refine w_iloadN X djdk_52_4_45 rfl ?_
  refine w_iloadN X djdk_52_4_46 rfl ?_
  refine w_getS X djdk_52_4_47 (host := "") (Or.inl (wd_116 hw)) Via.refl (S_lo.ext X.old.2) (fun T X => ?_)
  refine w_ishr X djdk_52_4_50 ?_
  refine w_i2b X djdk_52_4_51 ?_
  refine w_bastore X djdk_52_4_52 A1 (by decide) rfl ga (.int ((d >>> ((8 : Int32) &&& 31)).toInt8.toInt32)) (congrArg Value.int (own_nar_b _)) [(.int ((d >>> ((0 : Int32) &&& 31)).toInt8.toInt32)), (.int ((d >>> ((8 : Int32) &&& 31)).toInt8.toInt32))] rfl (fun T h2 X W2 A2 => ?_)
  have K2 : Keep h0 h2 [a] := K1.wr W2 (Or.inl (List.mem_of_getElem? (i := 0) rfl))
  exact w_retV X djdk_52_4_53 ⟨rfl, A2, K2⟩ (by decide) (by decide)
set_option maxRecDepth 65536 in
set_option maxHeartbeats 40000000 in
theorem m_tob16_1 {l : Launch} {Z : State} {a0 : Array Value} {n0 : Nat} (hw : ∀ d ∈ tables_1, d.before a0 Z = true) {h0 : Heap} {zc : Int32} {fm : Value} {a : Addr} {c0 : Int32} (hU : own_U Z zc fm) (Aa : Ary Z h0 a .char [(.int c0)]) :
    Does l Z n0 ⟨"java/lang/StringUTF16", "toBytes", "([CII)[B"⟩ jdk_52_method_14_code 5 (some (.array .byte)) [] { frames := 2, cells := 1, slots := 2, locals := 24 } #[(.ref a), (.int (0 : Int32)), (.int (1 : Int32))] h0 (fun v h => ∃ t, v = some (.ref t) ∧ h0.size ≤ t ∧ n0 ≤ t ∧ Ary Z h t .byte [(.int ((c0 >>> ((0 : Int32) &&& 31)).toInt8.toInt32)), (.int ((c0 >>> ((8 : Int32) &&& 31)).toInt8.toInt32))] ∧ Keep h0 h []) := by
  refine Does.start (plainFor_of_name pn_5) ?_
  obtain ⟨hS, S_ad, S_hi, S_lo⟩ := id hU
  obtain ⟨S_zc, hzc, S_fm, hfm⟩ := id hS
  intro p e s m below meth c T X
  replace X : Sd Z n0 0 jdk_52_method_14_code 5 "java/lang/StringUTF16" "toBytes" (some (.array .byte)) h0 p l e { frames := 2, cells := 1, slots := 2, locals := 24 } s m #[(.ref a), (.int (0 : Int32)), (.int (1 : Int32))] below meth c T [] 0 0 := X
  refine Wp.cast (g' := mkF m 0 #[.val (.ref a), .val (.int (0 : Int32)), .val (.int (1 : Int32)), .unset, .unset] []) (by first | (simp [entryFrame, mkF, argsToLocals, Value.category, maxLocals]; done) | rfl) ?_
  refine w_iloadN X djdk_52_14_0 rfl ?_
  refine w_callS X djdk_52_14_1 (wd_104 hw) (wd_105 hw) (wd_22 hw) (wd_106 hw) (by decide) (argsL := [(.int (1 : Int32))]) (S := []) (m_nbf_1 hw) pd_9 rfl rfl rfl (by decide) (Nat.le_of_ble_eq_true rfl) (by decide) (by decide) (fun T h1 v1 L1 X q1 => ?_)
  obtain ⟨t1, rfl, gt1, gn1, At1, Kc1⟩ := q1
  have K1 : Keep h0 h1 [] := (Keep.refl h0 []).trans Kc1 (fun x hx => nomatch hx)
  have sz_t1 : h0.size ≤ t1 := Nat.le_trans (Keep.refl h0 []).1 gt1
  show Wp p e below _ (T.setTop (mkF m 4 #[.val (.ref a), .val (.int (0 : Int32)), .val (.int (1 : Int32)), .unset, .unset] [(.ref t1)]))
  refine w_astoreN X #[.val (.ref a), .val (.int (0 : Int32)), .val (.int (1 : Int32)), .val (.ref t1), .unset] djdk_52_14_4 (rfl) rfl ?_
  refine w_iconst X (0 : Int32) djdk_52_14_5 rfl ?_
  refine w_istore X #[.val (.ref a), .val (.int (0 : Int32)), .val (.int (1 : Int32)), .val (.ref t1), .val (.int (0 : Int32))] djdk_52_14_6 rfl ?_
  refine w_iload X djdk_52_14_8 rfl ?_
  refine w_iloadN X djdk_52_14_10 rfl ?_
  refine w_icmpge X djdk_52_14_11 (fun hc => absurd (by decide) hc) (fun _ => ?_)
  refine w_aloadN X djdk_52_14_14 rfl (rfl) ?_
  refine w_iload X djdk_52_14_15 rfl ?_
  refine w_aloadN X djdk_52_14_17 rfl (rfl) ?_
  refine w_iloadN X djdk_52_14_18 rfl ?_
  have f2 := (Aa.keep Kc1 (List.not_mem_nil))
  refine w_caload X djdk_52_14_19 f2 (by decide) rfl ?_
  refine w_callS X djdk_52_14_20 (wd_111 hw) (wd_112 hw) (wd_22 hw) (wd_113 hw) (by decide) (argsL := [(.ref t1), (.int (0 : Int32)), (.int c0)]) (S := []) (m_put_1_0 hw (d := c0) hU gn1 At1) pd_10 rfl rfl rfl (by decide) (Nat.le_of_ble_eq_true rfl) (by decide) (by decide) (fun T h2 v2 L2 X q2 => ?_)
  obtain ⟨rfl, Ap2, Kc2⟩ := q2
  have K3 : Keep h0 h2 [] := K1.trans Kc2 (fun x hx => by cases List.mem_singleton.mp hx; exact (Or.inr sz_t1))
  show Wp p e below _ (T.setTop (mkF m 23 #[.val (.ref a), .val (.int (0 : Int32)), .val (.int (1 : Int32)), .val (.ref t1), .val (.int (0 : Int32))] []))
  refine w_iinc X (1 : Int32) #[.val (.ref a), .val (.int (1 : Int32)), .val (.int (1 : Int32)), .val (.ref t1), .val (.int (0 : Int32))] djdk_52_14_23 rfl rfl rfl ?_
  refine w_iinc X (1 : Int32) #[.val (.ref a), .val (.int (1 : Int32)), .val (.int (1 : Int32)), .val (.ref t1), .val (.int (1 : Int32))] djdk_52_14_26 rfl rfl rfl ?_
  refine w_goto X djdk_52_14_29 ?_
  refine w_iload X djdk_52_14_8 rfl ?_
  refine w_iloadN X djdk_52_14_10 rfl ?_
  refine w_icmpge X djdk_52_14_11 (fun _ => ?_) (fun hc => absurd hc Int32.lt_irrefl)
  refine w_aloadN X djdk_52_14_32 rfl (rfl) ?_
  exact w_retR X rfl (rfl) rfl djdk_52_14_33 ⟨_, rfl, sz_t1, gn1, Ap2, K3⟩ (by decide) (by decide)
set_option maxRecDepth 65536 in
set_option maxHeartbeats 40000000 in
theorem m_getc_1_0 {l : Launch} {Z : State} {a0 : Array Value} {n0 : Nat} (hw : ∀ d ∈ tables_1, d.before a0 Z = true) {h0 : Heap} {zc : Int32} {fm : Value} {a : Addr} {r x0 x1 : Int32} (hU : own_U Z zc fm) (Aa : Ary Z h0 a .byte [(.int x0), (.int x1)]) (hr : (((x0 &&& (255 : Int32)) <<< ((0 : Int32) &&& 31)) ||| ((x1 &&& (255 : Int32)) <<< ((8 : Int32) &&& 31))).toUInt32.toUInt16.toUInt32.toInt32 = r) :
    Does l Z n0 ⟨"java/lang/StringUTF16", "getChar", "([BI)C"⟩ jdk_52_method_5_code 2 (some .char) [] { frames := 0, cells := 0, slots := 0, locals := 0 } #[(.ref a), (.int (0 : Int32))] h0 (fun v h => v = some (.int r) ∧ h0 = h) := by
  refine Does.start (plainFor_of_name pn_5) ?_
  obtain ⟨hS, S_ad, S_hi, S_lo⟩ := id hU
  obtain ⟨S_zc, hzc, S_fm, hfm⟩ := id hS
  intro p e s m below meth c T X
  replace X : Sd Z n0 0 jdk_52_method_5_code 2 "java/lang/StringUTF16" "getChar" (some .char) h0 p l e { frames := 0, cells := 0, slots := 0, locals := 0 } s m #[(.ref a), (.int (0 : Int32))] below meth c T [] 0 0 := X
  refine Wp.cast (g' := mkF m 0 #[.val (.ref a), .val (.int (0 : Int32))] []) (by first | (simp [entryFrame, mkF, argsToLocals, Value.category, maxLocals]; done) | rfl) ?_
  refine w_getS X djdk_52_5_0 (host := "") (Or.inl (wd_114 hw)) Via.refl (S_ad.ext X.old.2) (fun T X => ?_)
  refine w_ifne X djdk_52_5_3 (fun _ => ?_) (fun hc => absurd hc (by decide))
  refine w_iloadN X djdk_52_5_28 rfl ?_
  refine w_iconst X (1 : Int32) djdk_52_5_29 rfl ?_
  refine w_ishl X djdk_52_5_30 ?_
  refine w_istoreN X #[.val (.ref a), .val (.int (0 : Int32))] djdk_52_5_31 rfl ?_
  refine w_aloadN X djdk_52_5_32 rfl (rfl) ?_
  refine w_iloadN X djdk_52_5_33 rfl ?_
  refine w_iinc X (1 : Int32) #[.val (.ref a), .val (.int (1 : Int32))] djdk_52_5_34 rfl rfl rfl ?_
  refine w_baload X djdk_52_5_37 Aa (by decide) rfl ?_
  refine w_sipush X (255 : Int32) djdk_52_5_38 rfl ?_
  refine w_iand X djdk_52_5_41 ?_
  refine w_getS X djdk_52_5_42 (host := "") (Or.inl (wd_115 hw)) Via.refl (S_hi.ext X.old.2) (fun T X => ?_)
  refine w_ishl X djdk_52_5_45 ?_
  refine w_aloadN X djdk_52_5_46 rfl (rfl) ?_
  refine w_iloadN X djdk_52_5_47 rfl ?_
  refine w_baload X djdk_52_5_48 Aa (by decide) rfl ?_
  refine w_sipush X (255 : Int32) djdk_52_5_49 rfl ?_
  refine w_iand X djdk_52_5_52 ?_
  refine w_getS X djdk_52_5_53 (host := "") (Or.inl (wd_116 hw)) Via.refl (S_lo.ext X.old.2) (fun T X => ?_)
  refine w_ishl X djdk_52_5_56 ?_
  refine w_ior X djdk_52_5_57 ?_
  refine w_i2c X djdk_52_5_58 ?_
  exact w_ret_char X ((((x0 &&& (255 : Int32)) <<< ((0 : Int32) &&& 31)) ||| ((x1 &&& (255 : Int32)) <<< ((8 : Int32) &&& 31))).toUInt32.toUInt16.toUInt32.toInt32) (own_nar_c _) djdk_52_5_59 ⟨by rw [hr], rfl⟩ (by decide) (by decide)
set_option maxRecDepth 65536 in
set_option maxHeartbeats 40000000 in
theorem m_c3_1_0 {l : Launch} {Z : State} {a0 : Array Value} {n0 : Nat} (hw : ∀ d ∈ tables_1, d.before a0 Z = true) {h0 : Heap} {zc : Int32} {fm : Value} {a : Addr} {c0 : Int32} (hU : own_U Z zc fm) (Aa : Ary Z h0 a .char [(.int c0)]) (nc0 : nar .char c0 = c0)  (gk : (255 : Int32) < c0) :
    Does l Z n0 ⟨"java/lang/StringUTF16", "compress", "([CII)[B"⟩ jdk_52_method_16_code 6 (some (.array .byte)) [] { frames := 3, cells := 2, slots := 3, locals := 40 } #[(.ref a), (.int (0 : Int32)), (.int (1 : Int32))] h0 (fun v h => ∃ t, v = some (.ref t) ∧ h0.size ≤ t ∧ n0 ≤ t ∧ Ary Z h t .byte [(.int ((c0 >>> ((0 : Int32) &&& 31)).toInt8.toInt32)), (.int ((c0 >>> ((8 : Int32) &&& 31)).toInt8.toInt32))] ∧ Keep h0 h []) := by
  refine Does.start (plainFor_of_name pn_5) ?_
  obtain ⟨hS, S_ad, S_hi, S_lo⟩ := id hU
  obtain ⟨S_zc, hzc, S_fm, hfm⟩ := id hS
  intro p e s m below meth c T X
  replace X : Sd Z n0 0 jdk_52_method_16_code 6 "java/lang/StringUTF16" "compress" (some (.array .byte)) h0 p l e { frames := 3, cells := 2, slots := 3, locals := 40 } s m #[(.ref a), (.int (0 : Int32)), (.int (1 : Int32))] below meth c T [] 0 0 := X
  refine Wp.cast (g' := mkF m 0 #[.val (.ref a), .val (.int (0 : Int32)), .val (.int (1 : Int32)), .unset, .unset, .unset] []) (by first | (simp [entryFrame, mkF, argsToLocals, Value.category, maxLocals]; done) | rfl) ?_
  refine w_iloadN X djdk_52_16_0 rfl ?_
  refine w_newarr X djdk_52_16_1 (wd_24 hw) 1 1 (by decide) (by decide) (by decide) (by decide) (by decide) (by decide) (fun T h1 b1 g1 gn1 X E1 A1 => ?_)
  replace A1 : Ary Z h1 b1 .byte [(.int (0 : Int32))] := A1
  have sz_b1 : h0.size ≤ b1 := Nat.le_trans (Keep.refl h0 []).1 (Nat.le_of_eq g1.symm)
  have K1 : Keep h0 h1 [] := (Keep.refl h0 []).ext E1
  refine w_astoreN X #[.val (.ref a), .val (.int (0 : Int32)), .val (.int (1 : Int32)), .val (.ref b1), .unset, .unset] djdk_52_16_3 (rfl) rfl ?_
  refine w_aloadN X djdk_52_16_4 rfl (rfl) ?_
  refine w_iloadN X djdk_52_16_5 rfl ?_
  refine w_aloadN X djdk_52_16_6 rfl (rfl) ?_
  refine w_iconst X (0 : Int32) djdk_52_16_7 rfl ?_
  refine w_iloadN X djdk_52_16_8 rfl ?_
  have f2 := (Aa.ext E1)
  refine w_callS X djdk_52_16_9 (wd_25 hw) (wd_26 hw) (wd_22 hw) (wd_27 hw) (by decide) (argsL := [(.ref a), (.int (0 : Int32)), (.ref b1), (.int (0 : Int32)), (.int (1 : Int32))]) (S := []) (m_c5_1_0 hw f2 A1 gn1 (Nat.ne_of_lt (Nat.lt_of_lt_of_le Aa.lt (Nat.le_of_eq g1.symm)))  gk) pd_5 rfl rfl rfl (by decide) (Nat.le_of_ble_eq_true rfl) (by decide) (by decide) (fun T h2 v2 L2 X q2 => ?_)
  obtain ⟨rfl, Kc2⟩ := q2
  have K3 : Keep h0 h2 [] := K1.trans Kc2 (fun x hx => by cases List.mem_singleton.mp hx; exact (Or.inr sz_b1))
  show Wp p e below _ (T.setTop (mkF m 12 #[.val (.ref a), .val (.int (0 : Int32)), .val (.int (1 : Int32)), .val (.ref b1), .unset, .unset] [(.int (0 : Int32))]))
  refine w_istore X #[.val (.ref a), .val (.int (0 : Int32)), .val (.int (1 : Int32)), .val (.ref b1), .val (.int (0 : Int32)), .unset] djdk_52_16_12 rfl ?_
  refine w_iload X djdk_52_16_14 rfl ?_
  refine w_iloadN X djdk_52_16_16 rfl ?_
  refine w_icmpeq X djdk_52_16_17 (fun hc => absurd hc (by decide)) (fun _ => ?_)
  refine w_aloadN X djdk_52_16_20 rfl (rfl) ?_
  refine w_iloadN X djdk_52_16_21 rfl ?_
  refine w_iloadN X djdk_52_16_22 rfl ?_
  have f4 := (f2.keep Kc2 (by simp only [List.mem_cons, List.not_mem_nil, or_false]; exact (Nat.ne_of_lt (Nat.lt_of_lt_of_le Aa.lt (Nat.le_of_eq g1.symm)))))
  refine w_callS X djdk_52_16_23 (wd_101 hw) (wd_102 hw) (wd_22 hw) (wd_103 hw) (by decide) (argsL := [(.ref a), (.int (0 : Int32)), (.int (1 : Int32))]) (S := []) (m_tob16_1 hw hU f4) pd_6 rfl rfl rfl (by decide) (Nat.le_of_ble_eq_true rfl) (by decide) (by decide) (fun T h3 v3 L3 X q3 => ?_)
  obtain ⟨t3, rfl, gt3, gn3, At3, Kc3⟩ := q3
  have K5 : Keep h0 h3 [] := K3.trans Kc3 (fun x hx => nomatch hx)
  have sz_t3 : h0.size ≤ t3 := Nat.le_trans K3.1 gt3
  show Wp p e below _ (T.setTop (mkF m 26 #[.val (.ref a), .val (.int (0 : Int32)), .val (.int (1 : Int32)), .val (.ref b1), .val (.int (0 : Int32)), .unset] [(.ref t3)]))
  refine w_astore X #[.val (.ref a), .val (.int (0 : Int32)), .val (.int (1 : Int32)), .val (.ref b1), .val (.int (0 : Int32)), .val (.ref t3)] djdk_52_16_26 (rfl) rfl ?_
  refine w_aload X djdk_52_16_28 rfl (rfl) ?_
  refine w_iload X djdk_52_16_30 rfl ?_
  refine w_callS X djdk_52_16_32 (wd_117 hw) (wd_118 hw) (wd_22 hw) (wd_119 hw) (by decide) (argsL := [(.ref t3), (.int (0 : Int32))]) (S := []) (m_getc_1_0 hw (r := c0) hU At3 (own_utf nc0)) pd_11 rfl rfl rfl (by decide) (Nat.le_of_ble_eq_true rfl) (by decide) (by decide) (fun T h4 v4 L4 X q4 => ?_)
  obtain ⟨rfl, rfl⟩ := q4
  show Wp p e below _ (T.setTop (mkF m 35 #[.val (.ref a), .val (.int (0 : Int32)), .val (.int (1 : Int32)), .val (.ref b1), .val (.int (0 : Int32)), .val (.ref t3)] [(.int c0)]))
  refine w_sipush X (255 : Int32) djdk_52_16_35 rfl ?_
  refine w_icmpgt X djdk_52_16_38 (fun _ => ?_) (fun hc => absurd gk hc)
  refine w_aload X djdk_52_16_54 rfl (rfl) ?_
  exact w_retR X rfl (rfl) rfl djdk_52_16_56 ⟨_, rfl, sz_t3, gn3, At3, K5⟩ (by decide) (by decide)
set_option maxRecDepth 65536 in
set_option maxHeartbeats 40000000 in
theorem m_cfal16_1 {l : Launch} {Z : State} {a0 : Array Value} {n0 : Nat} (hw : ∀ d ∈ tables_1, d.before a0 Z = true) {h0 : Heap} {a : Addr} {v0 v1 : Value} (Aa : Ary Z h0 a .byte [v0, v1]) :
    Does l Z n0 ⟨"java/lang/StringUTF16", "coderFromArrayLen", "([BI)B"⟩ jdk_52_method_15_code 2 (some .byte) [] { frames := 0, cells := 0, slots := 0, locals := 0 } #[(.ref a), (.int (1 : Int32))] h0 (fun v h => v = some (.int (1 : Int32)) ∧ h0 = h) := by
  refine Does.start (plainFor_of_name pn_5) ?_
  intro p e s m below meth c T X
  replace X : Sd Z n0 0 jdk_52_method_15_code 2 "java/lang/StringUTF16" "coderFromArrayLen" (some .byte) h0 p l e { frames := 0, cells := 0, slots := 0, locals := 0 } s m #[(.ref a), (.int (1 : Int32))] below meth c T [] 0 0 := X
  refine Wp.cast (g' := mkF m 0 #[.val (.ref a), .val (.int (1 : Int32))] []) (by first | (simp [entryFrame, mkF, argsToLocals, Value.category, maxLocals]; done) | rfl) ?_
  refine w_iloadN X djdk_52_15_0 rfl ?_
  refine w_aloadN X djdk_52_15_1 rfl (rfl) ?_
  refine w_arrlen X (2 : Int32) djdk_52_15_2 Aa rfl ?_
  refine w_isub X djdk_52_15_3 ?_
  refine w_bipush X (31 : Int32) djdk_52_15_4 rfl ?_
  refine w_iushr X djdk_52_15_6 ?_
  refine w_i2b X djdk_52_15_7 ?_
  exact w_ret_byte X (1 : Int32) (by decide) djdk_52_15_8 ⟨rfl, rfl⟩ (by decide) (by decide)
set_option maxRecDepth 65536 in
set_option maxHeartbeats 40000000 in
theorem m_si4_1_0 {l : Launch} {Z : State} {a0 : Array Value} {n0 : Nat} (hw : ∀ d ∈ tables_1, d.before a0 Z = true) {h0 : Heap} {zc : Int32} {fm : Value} {a b : Addr} {c0 : Int32} (hU : own_U Z zc fm) (ga : n0 ≤ a) (Ea : Exa Z h0 a "java/lang/String") (Va : Fld Z h0 a "java/lang/String" "value" "[B" .null) (Ca : Fld Z h0 a "java/lang/String" "coder" "B" (.int (0 : Int32))) (Ab : Ary Z h0 b .char [(.int c0)]) (nc0 : nar .char c0 = c0)  (gk : (255 : Int32) < c0) :
    Does l Z n0 ⟨"java/lang/String", "<init>", "([CIILjava/lang/Void;)V"⟩ jdk_42_method_149_code 6 none [] { frames := 4, cells := 2, slots := 3, locals := 57 } #[(.ref a), (.ref b), (.int (0 : Int32)), (.int (1 : Int32)), .null] h0 (fun v h => v = none ∧ Keep h0 h [a] ∧ ∃ t, h0.size ≤ t ∧ n0 ≤ t ∧ Txt Z h a t [c0]) := by
  refine Does.start (plainFor_of_name pn_4) ?_
  obtain ⟨hS, S_ad, S_hi, S_lo⟩ := id hU
  obtain ⟨S_zc, hzc, S_fm, hfm⟩ := id hS
  intro p e s m below meth c T X
  replace X : Sd Z n0 0 jdk_42_method_149_code 6 "java/lang/String" "<init>" none h0 p l e { frames := 4, cells := 2, slots := 3, locals := 57 } s m #[(.ref a), (.ref b), (.int (0 : Int32)), (.int (1 : Int32)), .null] below meth c T [] 0 0 := X
  refine Wp.cast (g' := mkF m 0 #[.val (.ref a), .val (.ref b), .val (.int (0 : Int32)), .val (.int (1 : Int32)), .val .null, .unset] []) (by first | (simp [entryFrame, mkF, argsToLocals, Value.category, maxLocals]; done) | rfl) ?_
  refine w_aloadN X djdk_42_149_0 rfl (rfl) ?_
  refine w_initO X djdk_42_149_1 (wd_16 hw) (wd_17 hw) (wd_18 hw) rfl (by decide) (Nat.le_of_ble_eq_true rfl) (fun T X => ?_)
  refine w_iloadN X djdk_42_149_4 rfl ?_
  refine w_ifne X djdk_42_149_5 (fun _ => ?_) (fun hc => absurd hc (by decide))
  refine w_getS X djdk_42_149_27 (host := "") (Or.inl (wd_19 hw)) Via.refl (S_zc.ext X.old.2) (fun T X => ?_)
  refine w_ifeq X djdk_42_149_30 (fun hc => absurd hc hzc) (fun _ => ?_)
  refine w_aloadN X djdk_42_149_33 rfl (rfl) ?_
  refine w_iloadN X djdk_42_149_34 rfl ?_
  refine w_iloadN X djdk_42_149_35 rfl ?_
  refine w_callS X djdk_42_149_36 (wd_20 hw) (wd_21 hw) (wd_22 hw) (wd_23 hw) (by decide) (argsL := [(.ref b), (.int (0 : Int32)), (.int (1 : Int32))]) (S := []) (m_c3_1_0 hw hU Ab nc0  gk) pd_6 rfl rfl rfl (by decide) (Nat.le_of_ble_eq_true rfl) (by decide) (by decide) (fun T h1 v1 L1 X q1 => ?_)
  obtain ⟨t1, rfl, gt1, gn1, At1, Kc1⟩ := q1
  have K1 : Keep h0 h1 [a] := (Keep.refl h0 [a]).trans Kc1 (fun x hx => nomatch hx)
  have sz_t1 : h0.size ≤ t1 := Nat.le_trans (Keep.refl h0 [a]).1 gt1
  show Wp p e below _ (T.setTop (mkF m 39 #[.val (.ref a), .val (.ref b), .val (.int (0 : Int32)), .val (.int (1 : Int32)), .val .null, .unset] [(.ref t1)]))
  refine w_astore X #[.val (.ref a), .val (.ref b), .val (.int (0 : Int32)), .val (.int (1 : Int32)), .val .null, .val (.ref t1)] djdk_42_149_39 (rfl) rfl ?_
  refine w_aloadN X djdk_42_149_41 rfl (rfl) ?_
  refine w_aload X djdk_42_149_42 rfl (rfl) ?_
  refine w_iloadN X djdk_42_149_44 rfl ?_
  refine w_callS X djdk_42_149_45 (wd_28 hw) (wd_29 hw) (wd_22 hw) (wd_30 hw) (by decide) (argsL := [(.ref t1), (.int (1 : Int32))]) (S := [(.ref a)]) (m_cfal16_1 hw At1) pd_7 rfl rfl rfl (by decide) (Nat.le_of_ble_eq_true rfl) (by decide) (by decide) (fun T h2 v2 L2 X q2 => ?_)
  obtain ⟨rfl, rfl⟩ := q2
  show Wp p e below _ (T.setTop (mkF m 48 #[.val (.ref a), .val (.ref b), .val (.int (0 : Int32)), .val (.int (1 : Int32)), .val .null, .val (.ref t1)] [(.int (1 : Int32)), (.ref a)]))
  have f2 := (Ea.keep Kc1)
  have f3 := (Ca.keep Kc1 (List.not_mem_nil))
  refine w_putFN X djdk_42_149_48 (wd_31 hw) Via.refl f3 f2 (Or.inr ⟨(wd_32 hw), rfl, rfl⟩) (wd_6 hw) (ty := .byte) (by decide) (.int (1 : Int32)) rfl (by decide) ga (fun T h3 X W3 => ?_)
  have f4 := f3.same W3
  have K5 : Keep h0 h3 [a] := K1.wr W3 (Or.inl (List.mem_of_getElem? (i := 0) rfl))
  refine w_aloadN X djdk_42_149_51 rfl (rfl) ?_
  refine w_aload X djdk_42_149_52 rfl (rfl) ?_
  have f6 := (f2.wr W3)
  have f7 := ((Va.keep Kc1 (List.not_mem_nil)).other W3 (Or.inr (slot_ne (Or.inr (wd_34 hw)) (Or.inr (wd_32 hw)) (by decide) (t := (.array .byte)) (t' := .byte) (by decide) (by decide))))
  refine w_putF X djdk_42_149_54 (host := "") (Or.inl (wd_33 hw)) Via.refl f7 f6 (Or.inr ⟨(wd_34 hw), rfl, rfl⟩) (wd_6 hw) (ty := (.array .byte)) (by decide) rfl rfl ga (fun T h4 X W4 => ?_)
  have f8 := f7.same W4
  have K9 : Keep h0 h4 [a] := K5.wr W4 (Or.inl (List.mem_of_getElem? (i := 0) rfl))
  have f10 := (f6.wr W4)
  have f11 := (f4.other W4 (Or.inr (slot_ne (Or.inr (wd_32 hw)) (Or.inr (wd_34 hw)) (by decide) (t := .byte) (t' := (.array .byte)) (by decide) (by decide))))
  have f12 := ((At1.other W3 (Ne.symm (Nat.ne_of_lt (Nat.lt_of_lt_of_le Ea.lt gt1)))).other W4 (Ne.symm (Nat.ne_of_lt (Nat.lt_of_lt_of_le Ea.lt gt1))))
  exact w_retV X djdk_42_149_57 ⟨rfl, K9, _, sz_t1, gn1, f10, f8, Or.inr ⟨f11, f12⟩⟩ (by decide) (by decide)
set_option maxRecDepth 65536 in
set_option maxHeartbeats 40000000 in
theorem m_si_1_0 {l : Launch} {Z : State} {a0 : Array Value} {n0 : Nat} (hw : ∀ d ∈ tables_1, d.before a0 Z = true) {h0 : Heap} {zc : Int32} {fm : Value} {a b : Addr} {c0 : Int32} (hU : own_U Z zc fm) (ga : n0 ≤ a) (Ea : Exa Z h0 a "java/lang/String") (Va : Fld Z h0 a "java/lang/String" "value" "[B" .null) (Ca : Fld Z h0 a "java/lang/String" "coder" "B" (.int (0 : Int32))) (Ab : Ary Z h0 b .char [(.int c0)]) (nc0 : nar .char c0 = c0)  (gk : (255 : Int32) < c0) :
    Does l Z n0 ⟨"java/lang/String", "<init>", "([C)V"⟩ jdk_42_method_3_code 2 none [] { frames := 5, cells := 2, slots := 3, locals := 74 } #[(.ref a), (.ref b)] h0 (fun v h => v = none ∧ Keep h0 h [a] ∧ ∃ t, h0.size ≤ t ∧ n0 ≤ t ∧ Txt Z h a t [c0]) := by
  refine Does.start (plainFor_of_name pn_4) ?_
  obtain ⟨hS, S_ad, S_hi, S_lo⟩ := id hU
  obtain ⟨S_zc, hzc, S_fm, hfm⟩ := id hS
  intro p e s m below meth c T X
  replace X : Sd Z n0 0 jdk_42_method_3_code 2 "java/lang/String" "<init>" none h0 p l e { frames := 5, cells := 2, slots := 3, locals := 74 } s m #[(.ref a), (.ref b)] below meth c T [] 0 0 := X
  refine Wp.cast (g' := mkF m 0 #[.val (.ref a), .val (.ref b)] []) (by first | (simp [entryFrame, mkF, argsToLocals, Value.category, maxLocals]; done) | rfl) ?_
  refine w_aloadN X djdk_42_3_0 rfl (rfl) ?_
  refine w_aloadN X djdk_42_3_1 rfl (rfl) ?_
  refine w_iconst X (0 : Int32) djdk_42_3_2 rfl ?_
  refine w_aloadN X djdk_42_3_3 rfl (rfl) ?_
  refine w_arrlen X (1 : Int32) djdk_42_3_4 Ab rfl ?_
  refine w_aconstNull X djdk_42_3_5 ?_
  refine w_callI X djdk_42_3_6 rfl (wd_12 hw) (wd_13 hw) (wd_7 hw) (wd_15 hw) (by decide) (argsL := [(.ref b), (.int (0 : Int32)), (.int (1 : Int32)), .null]) (S := []) (m_si4_1_0 hw hU ga Ea Va Ca Ab nc0  gk) pd_3 rfl rfl rfl (by decide) (Nat.le_of_ble_eq_true rfl) (by decide) (by decide) (fun T h1 v1 L1 X q1 => ?_)
  obtain ⟨rfl, r1⟩ := q1
  show Wp p e below _ (T.setTop (mkF m 9 #[.val (.ref a), .val (.ref b)] []))
  exact w_retV X djdk_42_3_9 ⟨rfl, r1⟩ (by decide) (by decide)
theorem m_tsi_1 {l : Launch} {Z : State} {a0 : Array Value} {n0 : Nat} (hw : ∀ d ∈ tables_1, d.before a0 Z = true) {h0 : Heap} {zc : Int32} {fm : Value} {a b : Addr} {c0 : Int32} (hU : own_U Z zc fm) (ga : n0 ≤ a) (Ea : Exa Z h0 a "java/lang/String") (Va : Fld Z h0 a "java/lang/String" "value" "[B" .null) (Ca : Fld Z h0 a "java/lang/String" "coder" "B" (.int (0 : Int32))) (Ab : Ary Z h0 b .char [(.int c0)]) (nc0 : nar .char c0 = c0) :
    Does l Z n0 ⟨"java/lang/String", "<init>", "([C)V"⟩ jdk_42_method_3_code 2 none [] { frames := 5, cells := 2, slots := 3, locals := 74 } #[.ref a, .ref b] h0 (fun v h => v = none ∧ Keep h0 h [a] ∧ ∃ t, h0.size ≤ t ∧ n0 ≤ t ∧ Txt Z h a t [c0]) := by
  by_cases l0 : (255 : Int32) < c0
  · exact m_si_1_0 hw hU ga Ea Va Ca Ab nc0  l0
  refine (m_si_1 hw hU.1 ga Ea Va Ca Ab l0).mono fun v h q => ?_
  obtain ⟨q1, q2, q3, q4, t, q5, q6, q7, q8⟩ := q
  refine ⟨q1, q4, t, q5, q6, q2, q7, Or.inl ⟨q3, q8, fun c hc => ?_⟩⟩
  simp only [List.mem_cons, List.not_mem_nil, or_false] at hc
  rcases hc with rfl <;> assumption
set_option maxRecDepth 65536 in
set_option maxHeartbeats 40000000 in
theorem m_str_1 {l : Launch} {Z : State} {a0 : Array Value} {n0 : Nat} (hw : ∀ d ∈ tables_1, d.before a0 Z = true) {h0 : Heap} {zc : Int32} {fm : Value} {x c0 c1 c2 : Int32} (hU : own_U Z zc fm) (hheld : Jvm.Lit.constHeld Z "java/lang/String" 7) (hcw : Jvm.Lit.compactW.before a0 Z = true) (hx : x = (1 : Int32)) (nc0 : nar .char c0 = c0) (nc1 : nar .char c1 = c1) (nc2 : nar .char c2 = c2) :
    DoesG l Z n0 (Em Z h0) ⟨"com/example/whole_session/wholesession/RunCompareUtf8PinLaw", "str", "(ICCC)Ljava/lang/String;"⟩ method_3_code 4 (some (.object "java/lang/String")) [] { frames := 6, cells := 4, slots := 8, locals := 88 } #[(.int x), (.int c0), (.int c1), (.int c2)] h0 (fun v h vm => ∃ a t, v = some (.ref a) ∧ Txt Z h a t [c0] ∧ Keep h0 h [] ∧ Em Z h vm) := by
  refine DoesG.start (plainFor_of_name pn_1) ?_
  obtain ⟨hS, S_ad, S_hi, S_lo⟩ := id hU
  obtain ⟨S_zc, hzc, S_fm, hfm⟩ := id hS
  intro p e s m below meth c T X Y hs0 Gs
  replace X : Sd Z n0 0 method_3_code 4 "com/example/whole_session/wholesession/RunCompareUtf8PinLaw" "str" (some (.object "java/lang/String")) h0 p l e { frames := 6, cells := 4, slots := 8, locals := 88 } (s.setVm s.vm) m #[(.int x), (.int c0), (.int c1), (.int c2)] below meth c T [] 0 0 := X
  refine Wp.cast (g' := mkF m 0 #[.val (.int x), .val (.int c0), .val (.int c1), .val (.int c2)] []) (by first | (simp [entryFrame, mkF, argsToLocals, Value.category, maxLocals]; done) | rfl) ?_
  refine w_iloadN X d3_0 rfl ?_
  refine w_ifne X d3_1 (fun _ => ?_) (fun hc => absurd hc (by rw [hx]; decide))
  refine w_iloadN X d3_15 rfl ?_
  refine w_iconst X (1 : Int32) d3_16 rfl ?_
  refine w_icmpne X d3_17 (fun hc => absurd hx hc) (fun _ => ?_)
  refine w_new X d3_20 (wd_5 hw) (wd_6 hw) (wd_7 hw) (by decide) (by decide) (fun T h1 b1 g1 gn1 X E1 A1 D1 => ?_)
  have sz_b1 : h0.size ≤ b1 := Nat.le_trans (Keep.refl h0 []).1 (Nat.le_of_eq g1.symm)
  have K1 : Keep h0 h1 [] := (Keep.refl h0 []).ext E1
  refine w_dup X d3_23 rfl ?_
  refine w_iconst X (1 : Int32) d3_24 rfl ?_
  refine w_newarr X d3_25 (wd_8 hw) 1 1 (by decide) (by decide) (by decide) (by decide) (by decide) (by decide) (fun T h2 b2 g2 gn2 X E2 A2 => ?_)
  replace A2 : Ary Z h2 b2 .char [(.int (0 : Int32))] := A2
  have sz_b2 : h0.size ≤ b2 := Nat.le_trans K1.1 (Nat.le_of_eq g2.symm)
  have K2 : Keep h0 h2 [] := K1.ext E2
  refine w_dup X d3_27 rfl ?_
  refine w_iconst X (0 : Int32) d3_28 rfl ?_
  refine w_iloadN X d3_29 rfl ?_
  refine w_castore X d3_30 A2 (by decide) rfl gn2 (.int c0) (congrArg Value.int nc0) [(.int c0)] rfl (fun T h3 X W3 A3 => ?_)
  have K3 : Keep h0 h3 [] := K2.wr W3 (Or.inr sz_b2)
  have f4 := ((A1.ext E2).wr W3)
  have f5 := (((show Fld Z h1 b1 "java/lang/String" "value" "[B" .null from D1 (Or.inr (wd_34 hw)) (ty := (.array .byte)) (by decide)).ext E2).other W3 (Or.inl (Nat.ne_of_lt (Nat.lt_of_lt_of_le A1.lt (Nat.le_of_eq g2.symm)))))
  have f6 := (((show Fld Z h1 b1 "java/lang/String" "coder" "B" (.int (0 : Int32)) from D1 (Or.inr (wd_32 hw)) (ty := .byte) (by decide)).ext E2).other W3 (Or.inl (Nat.ne_of_lt (Nat.lt_of_lt_of_le A1.lt (Nat.le_of_eq g2.symm)))))
  refine w_callI X d3_31 rfl (wd_9 hw) (wd_10 hw) (wd_7 hw) (wd_11 hw) (by decide) (argsL := [(.ref b2)]) (S := [(.ref b1)]) (m_tsi_1 hw hU gn1 f4 f5 f6 A3 nc0) pd_4 rfl rfl rfl (by decide) (Nat.le_of_ble_eq_true rfl) (by decide) (by decide) (fun T h4 v4 L4 X q4 => ?_)
  obtain ⟨rfl, Kc4, t4, gt4, gn4, Tx4⟩ := q4
  have K7 : Keep h0 h4 [] := K3.trans Kc4 (fun x hx => by cases List.mem_singleton.mp hx; exact (Or.inr sz_b1))
  have sz_t4 : h0.size ≤ t4 := Nat.le_trans K3.1 gt4
  show Wp p e below _ (T.setTop (mkF m 34 #[.val (.int x), .val (.int c0), .val (.int c1), .val (.int c2)] [(.ref b1)]))
  exact g_retR X Y rfl (rfl) rfl d3_34 (fun vm' hW => ⟨_, _, rfl, Tx4, K7, (Gs.warm hW).keep K7⟩) (by decide) (by decide)
set_option maxRecDepth 65536 in
set_option maxHeartbeats 40000000 in
theorem m_c5_2 {l : Launch} {Z : State} {a0 : Array Value} {n0 : Nat} (hw : ∀ d ∈ tables_1, d.before a0 Z = true) {h0 : Heap} {a b : Addr} {c0 c1 : Int32} (Aa : Ary Z h0 a .char [(.int c0), (.int c1)]) (Ab : Ary Z h0 b .byte [(.int (0 : Int32)), (.int (0 : Int32))]) (gb : n0 ≤ b) (nab : a ≠ b) (l0 : ¬ (255 : Int32) < c0) (l1 : ¬ (255 : Int32) < c1) :
    Does l Z n0 ⟨"java/lang/StringUTF16", "compress", "([CI[BII)I"⟩ jdk_52_method_21_code 7 (some .int) [] { frames := 0, cells := 0, slots := 0, locals := 0 } #[(.ref a), (.int (0 : Int32)), (.ref b), (.int (0 : Int32)), (.int (2 : Int32))] h0 (fun v h => v = some (.int (2 : Int32)) ∧ Ary Z h b .byte [(.int (c0.toInt8.toInt32)), (.int (c1.toInt8.toInt32))] ∧ Keep h0 h [b]) := by
  refine Does.start (plainFor_of_name pn_5) ?_
  intro p e s m below meth c T X
  replace X : Sd Z n0 0 jdk_52_method_21_code 7 "java/lang/StringUTF16" "compress" (some .int) h0 p l e { frames := 0, cells := 0, slots := 0, locals := 0 } s m #[(.ref a), (.int (0 : Int32)), (.ref b), (.int (0 : Int32)), (.int (2 : Int32))] below meth c T [] 0 0 := X
  refine Wp.cast (g' := mkF m 0 #[.val (.ref a), .val (.int (0 : Int32)), .val (.ref b), .val (.int (0 : Int32)), .val (.int (2 : Int32)), .unset, .unset] []) (by first | (simp [entryFrame, mkF, argsToLocals, Value.category, maxLocals]; done) | rfl) ?_
  refine w_iconst X (0 : Int32) djdk_52_21_0 rfl ?_
  refine w_istore X #[.val (.ref a), .val (.int (0 : Int32)), .val (.ref b), .val (.int (0 : Int32)), .val (.int (2 : Int32)), .val (.int (0 : Int32)), .unset] djdk_52_21_1 rfl ?_
  refine w_iload X djdk_52_21_3 rfl ?_
  refine w_iload X djdk_52_21_5 rfl ?_
  refine w_icmpge X djdk_52_21_7 (fun hc => absurd (by decide) hc) (fun _ => ?_)
  refine w_aloadN X djdk_52_21_10 rfl (rfl) ?_
  refine w_iloadN X djdk_52_21_11 rfl ?_
  refine w_caload X djdk_52_21_12 Aa (by decide) rfl ?_
  refine w_istore X #[.val (.ref a), .val (.int (0 : Int32)), .val (.ref b), .val (.int (0 : Int32)), .val (.int (2 : Int32)), .val (.int (0 : Int32)), .val (.int c0)] djdk_52_21_13 rfl ?_
  refine w_iload X djdk_52_21_15 rfl ?_
  refine w_sipush X (255 : Int32) djdk_52_21_17 rfl ?_
  refine w_icmple X djdk_52_21_20 (fun _ => ?_) (fun hc => absurd hc l0)
  refine w_aloadN X djdk_52_21_26 rfl (rfl) ?_
  refine w_iloadN X djdk_52_21_27 rfl ?_
  refine w_iload X djdk_52_21_28 rfl ?_
  refine w_i2b X djdk_52_21_30 ?_
  refine w_bastore X djdk_52_21_31 Ab (by decide) rfl gb (.int (c0.toInt8.toInt32)) (congrArg Value.int (own_nar_b _)) [(.int (c0.toInt8.toInt32)), (.int (0 : Int32))] rfl (fun T h1 X W1 A1 => ?_)
  have K1 : Keep h0 h1 [b] := (Keep.refl h0 [b]).wr W1 (Or.inl (List.mem_of_getElem? (i := 0) rfl))
  refine w_iinc X (1 : Int32) #[.val (.ref a), .val (.int (1 : Int32)), .val (.ref b), .val (.int (0 : Int32)), .val (.int (2 : Int32)), .val (.int (0 : Int32)), .val (.int c0)] djdk_52_21_32 rfl rfl rfl ?_
  refine w_iinc X (1 : Int32) #[.val (.ref a), .val (.int (1 : Int32)), .val (.ref b), .val (.int (1 : Int32)), .val (.int (2 : Int32)), .val (.int (0 : Int32)), .val (.int c0)] djdk_52_21_35 rfl rfl rfl ?_
  refine w_iinc X (1 : Int32) #[.val (.ref a), .val (.int (1 : Int32)), .val (.ref b), .val (.int (1 : Int32)), .val (.int (2 : Int32)), .val (.int (1 : Int32)), .val (.int c0)] djdk_52_21_38 rfl rfl rfl ?_
  refine w_goto X djdk_52_21_41 ?_
  refine w_iload X djdk_52_21_3 rfl ?_
  refine w_iload X djdk_52_21_5 rfl ?_
  refine w_icmpge X djdk_52_21_7 (fun hc => absurd (by decide) hc) (fun _ => ?_)
  refine w_aloadN X djdk_52_21_10 rfl (rfl) ?_
  refine w_iloadN X djdk_52_21_11 rfl ?_
  have f2 := (Aa.other W1 nab)
  refine w_caload X djdk_52_21_12 f2 (by decide) rfl ?_
  refine w_istore X #[.val (.ref a), .val (.int (1 : Int32)), .val (.ref b), .val (.int (1 : Int32)), .val (.int (2 : Int32)), .val (.int (1 : Int32)), .val (.int c1)] djdk_52_21_13 rfl ?_
  refine w_iload X djdk_52_21_15 rfl ?_
  refine w_sipush X (255 : Int32) djdk_52_21_17 rfl ?_
  refine w_icmple X djdk_52_21_20 (fun _ => ?_) (fun hc => absurd hc l1)
  refine w_aloadN X djdk_52_21_26 rfl (rfl) ?_
  refine w_iloadN X djdk_52_21_27 rfl ?_
  refine w_iload X djdk_52_21_28 rfl ?_
  refine w_i2b X djdk_52_21_30 ?_
  refine w_bastore X djdk_52_21_31 A1 (by decide) rfl gb (.int (c1.toInt8.toInt32)) (congrArg Value.int (own_nar_b _)) [(.int (c0.toInt8.toInt32)), (.int (c1.toInt8.toInt32))] rfl (fun T h2 X W2 A2 => ?_)
  have K3 : Keep h0 h2 [b] := K1.wr W2 (Or.inl (List.mem_of_getElem? (i := 0) rfl))
  refine w_iinc X (1 : Int32) #[.val (.ref a), .val (.int (2 : Int32)), .val (.ref b), .val (.int (1 : Int32)), .val (.int (2 : Int32)), .val (.int (1 : Int32)), .val (.int c1)] djdk_52_21_32 rfl rfl rfl ?_
  refine w_iinc X (1 : Int32) #[.val (.ref a), .val (.int (2 : Int32)), .val (.ref b), .val (.int (2 : Int32)), .val (.int (2 : Int32)), .val (.int (1 : Int32)), .val (.int c1)] djdk_52_21_35 rfl rfl rfl ?_
  refine w_iinc X (1 : Int32) #[.val (.ref a), .val (.int (2 : Int32)), .val (.ref b), .val (.int (2 : Int32)), .val (.int (2 : Int32)), .val (.int (2 : Int32)), .val (.int c1)] djdk_52_21_38 rfl rfl rfl ?_
  refine w_goto X djdk_52_21_41 ?_
  refine w_iload X djdk_52_21_3 rfl ?_
  refine w_iload X djdk_52_21_5 rfl ?_
  refine w_icmpge X djdk_52_21_7 (fun _ => ?_) (fun hc => absurd hc Int32.lt_irrefl)
  refine w_iload X djdk_52_21_44 rfl ?_
  exact w_retI X djdk_52_21_46 ⟨rfl, A2, K3⟩ (by decide) (by decide)
set_option maxRecDepth 65536 in
set_option maxHeartbeats 40000000 in
theorem m_c3_2 {l : Launch} {Z : State} {a0 : Array Value} {n0 : Nat} (hw : ∀ d ∈ tables_1, d.before a0 Z = true) {h0 : Heap} {a : Addr} {c0 c1 : Int32} (Aa : Ary Z h0 a .char [(.int c0), (.int c1)]) (l0 : ¬ (255 : Int32) < c0) (l1 : ¬ (255 : Int32) < c1) :
    Does l Z n0 ⟨"java/lang/StringUTF16", "compress", "([CII)[B"⟩ jdk_52_method_16_code 6 (some (.array .byte)) [] { frames := 1, cells := 1, slots := 2, locals := 18 } #[(.ref a), (.int (0 : Int32)), (.int (2 : Int32))] h0 (fun v h => ∃ t, v = some (.ref t) ∧ h0.size ≤ t ∧ n0 ≤ t ∧ Ary Z h t .byte [(.int (c0.toInt8.toInt32)), (.int (c1.toInt8.toInt32))] ∧ Keep h0 h []) := by
  refine Does.start (plainFor_of_name pn_5) ?_
  intro p e s m below meth c T X
  replace X : Sd Z n0 0 jdk_52_method_16_code 6 "java/lang/StringUTF16" "compress" (some (.array .byte)) h0 p l e { frames := 1, cells := 1, slots := 2, locals := 18 } s m #[(.ref a), (.int (0 : Int32)), (.int (2 : Int32))] below meth c T [] 0 0 := X
  refine Wp.cast (g' := mkF m 0 #[.val (.ref a), .val (.int (0 : Int32)), .val (.int (2 : Int32)), .unset, .unset, .unset] []) (by first | (simp [entryFrame, mkF, argsToLocals, Value.category, maxLocals]; done) | rfl) ?_
  refine w_iloadN X djdk_52_16_0 rfl ?_
  refine w_newarr X djdk_52_16_1 (wd_24 hw) 2 2 (by decide) (by decide) (by decide) (by decide) (by decide) (by decide) (fun T h1 b1 g1 gn1 X E1 A1 => ?_)
  replace A1 : Ary Z h1 b1 .byte [(.int (0 : Int32)), (.int (0 : Int32))] := A1
  have sz_b1 : h0.size ≤ b1 := Nat.le_trans (Keep.refl h0 []).1 (Nat.le_of_eq g1.symm)
  have K1 : Keep h0 h1 [] := (Keep.refl h0 []).ext E1
  refine w_astoreN X #[.val (.ref a), .val (.int (0 : Int32)), .val (.int (2 : Int32)), .val (.ref b1), .unset, .unset] djdk_52_16_3 (rfl) rfl ?_
  refine w_aloadN X djdk_52_16_4 rfl (rfl) ?_
  refine w_iloadN X djdk_52_16_5 rfl ?_
  refine w_aloadN X djdk_52_16_6 rfl (rfl) ?_
  refine w_iconst X (0 : Int32) djdk_52_16_7 rfl ?_
  refine w_iloadN X djdk_52_16_8 rfl ?_
  have f2 := (Aa.ext E1)
  refine w_callS X djdk_52_16_9 (wd_25 hw) (wd_26 hw) (wd_22 hw) (wd_27 hw) (by decide) (argsL := [(.ref a), (.int (0 : Int32)), (.ref b1), (.int (0 : Int32)), (.int (2 : Int32))]) (S := []) (m_c5_2 hw f2 A1 gn1 (Nat.ne_of_lt (Nat.lt_of_lt_of_le Aa.lt (Nat.le_of_eq g1.symm))) l0 l1) pd_5 rfl rfl rfl (by decide) (Nat.le_of_ble_eq_true rfl) (by decide) (by decide) (fun T h2 v2 L2 X q2 => ?_)
  obtain ⟨rfl, Ac2, Kc2⟩ := q2
  have K3 : Keep h0 h2 [] := K1.trans Kc2 (fun x hx => by cases List.mem_singleton.mp hx; exact (Or.inr sz_b1))
  show Wp p e below _ (T.setTop (mkF m 12 #[.val (.ref a), .val (.int (0 : Int32)), .val (.int (2 : Int32)), .val (.ref b1), .unset, .unset] [(.int (2 : Int32))]))
  refine w_istore X #[.val (.ref a), .val (.int (0 : Int32)), .val (.int (2 : Int32)), .val (.ref b1), .val (.int (2 : Int32)), .unset] djdk_52_16_12 rfl ?_
  refine w_iload X djdk_52_16_14 rfl ?_
  refine w_iloadN X djdk_52_16_16 rfl ?_
  refine w_icmpeq X djdk_52_16_17 (fun _ => ?_) (fun hc => absurd rfl hc)
  refine w_aloadN X djdk_52_16_57 rfl (rfl) ?_
  exact w_retR X rfl (rfl) rfl djdk_52_16_58 ⟨_, rfl, sz_b1, gn1, Ac2, K3⟩ (by decide) (by decide)
set_option maxRecDepth 65536 in
set_option maxHeartbeats 40000000 in
theorem m_cfal_2 {l : Launch} {Z : State} {a0 : Array Value} {n0 : Nat} (hw : ∀ d ∈ tables_1, d.before a0 Z = true) {h0 : Heap} {a : Addr} {v0 v1 : Value} (Aa : Ary Z h0 a .byte [v0, v1]) :
    Does l Z n0 ⟨"java/lang/StringUTF16", "coderFromArrayLen", "([BI)B"⟩ jdk_52_method_15_code 2 (some .byte) [] { frames := 0, cells := 0, slots := 0, locals := 0 } #[(.ref a), (.int (2 : Int32))] h0 (fun v h => v = some (.int (0 : Int32)) ∧ h0 = h) := by
  refine Does.start (plainFor_of_name pn_5) ?_
  intro p e s m below meth c T X
  replace X : Sd Z n0 0 jdk_52_method_15_code 2 "java/lang/StringUTF16" "coderFromArrayLen" (some .byte) h0 p l e { frames := 0, cells := 0, slots := 0, locals := 0 } s m #[(.ref a), (.int (2 : Int32))] below meth c T [] 0 0 := X
  refine Wp.cast (g' := mkF m 0 #[.val (.ref a), .val (.int (2 : Int32))] []) (by first | (simp [entryFrame, mkF, argsToLocals, Value.category, maxLocals]; done) | rfl) ?_
  refine w_iloadN X djdk_52_15_0 rfl ?_
  refine w_aloadN X djdk_52_15_1 rfl (rfl) ?_
  refine w_arrlen X (2 : Int32) djdk_52_15_2 Aa rfl ?_
  refine w_isub X djdk_52_15_3 ?_
  refine w_bipush X (31 : Int32) djdk_52_15_4 rfl ?_
  refine w_iushr X djdk_52_15_6 ?_
  refine w_i2b X djdk_52_15_7 ?_
  exact w_ret_byte X (0 : Int32) (by decide) djdk_52_15_8 ⟨rfl, rfl⟩ (by decide) (by decide)
set_option maxRecDepth 65536 in
set_option maxHeartbeats 40000000 in
theorem m_si4_2 {l : Launch} {Z : State} {a0 : Array Value} {n0 : Nat} (hw : ∀ d ∈ tables_1, d.before a0 Z = true) {h0 : Heap} {zc : Int32} {fm : Value} {a b : Addr} {c0 c1 : Int32} (hS : own_S Z zc fm) (ga : n0 ≤ a) (Ea : Exa Z h0 a "java/lang/String") (Va : Fld Z h0 a "java/lang/String" "value" "[B" .null) (Ca : Fld Z h0 a "java/lang/String" "coder" "B" (.int (0 : Int32))) (Ab : Ary Z h0 b .char [(.int c0), (.int c1)]) (l0 : ¬ (255 : Int32) < c0) (l1 : ¬ (255 : Int32) < c1) :
    Does l Z n0 ⟨"java/lang/String", "<init>", "([CIILjava/lang/Void;)V"⟩ jdk_42_method_149_code 6 none [] { frames := 2, cells := 1, slots := 2, locals := 35 } #[(.ref a), (.ref b), (.int (0 : Int32)), (.int (2 : Int32)), .null] h0 (fun v h => v = none ∧ Exa Z h a "java/lang/String" ∧ Fld Z h a "java/lang/String" "coder" "B" (.int (0 : Int32)) ∧ Keep h0 h [a] ∧ ∃ t, h0.size ≤ t ∧ n0 ≤ t ∧ Fld Z h a "java/lang/String" "value" "[B" (.ref t) ∧ Ary Z h t .byte [(.int (c0.toInt8.toInt32)), (.int (c1.toInt8.toInt32))]) := by
  refine Does.start (plainFor_of_name pn_4) ?_
  obtain ⟨S_zc, hzc, S_fm, hfm⟩ := id hS
  intro p e s m below meth c T X
  replace X : Sd Z n0 0 jdk_42_method_149_code 6 "java/lang/String" "<init>" none h0 p l e { frames := 2, cells := 1, slots := 2, locals := 35 } s m #[(.ref a), (.ref b), (.int (0 : Int32)), (.int (2 : Int32)), .null] below meth c T [] 0 0 := X
  refine Wp.cast (g' := mkF m 0 #[.val (.ref a), .val (.ref b), .val (.int (0 : Int32)), .val (.int (2 : Int32)), .val .null, .unset] []) (by first | (simp [entryFrame, mkF, argsToLocals, Value.category, maxLocals]; done) | rfl) ?_
  refine w_aloadN X djdk_42_149_0 rfl (rfl) ?_
  refine w_initO X djdk_42_149_1 (wd_16 hw) (wd_17 hw) (wd_18 hw) rfl (by decide) (Nat.le_of_ble_eq_true rfl) (fun T X => ?_)
  refine w_iloadN X djdk_42_149_4 rfl ?_
  refine w_ifne X djdk_42_149_5 (fun _ => ?_) (fun hc => absurd hc (by decide))
  refine w_getS X djdk_42_149_27 (host := "") (Or.inl (wd_19 hw)) Via.refl (S_zc.ext X.old.2) (fun T X => ?_)
  refine w_ifeq X djdk_42_149_30 (fun hc => absurd hc hzc) (fun _ => ?_)
  refine w_aloadN X djdk_42_149_33 rfl (rfl) ?_
  refine w_iloadN X djdk_42_149_34 rfl ?_
  refine w_iloadN X djdk_42_149_35 rfl ?_
  refine w_callS X djdk_42_149_36 (wd_20 hw) (wd_21 hw) (wd_22 hw) (wd_23 hw) (by decide) (argsL := [(.ref b), (.int (0 : Int32)), (.int (2 : Int32))]) (S := []) (m_c3_2 hw Ab l0 l1) pd_6 rfl rfl rfl (by decide) (Nat.le_of_ble_eq_true rfl) (by decide) (by decide) (fun T h1 v1 L1 X q1 => ?_)
  obtain ⟨t1, rfl, gt1, gn1, At1, Kc1⟩ := q1
  have K1 : Keep h0 h1 [a] := (Keep.refl h0 [a]).trans Kc1 (fun x hx => nomatch hx)
  have sz_t1 : h0.size ≤ t1 := Nat.le_trans (Keep.refl h0 [a]).1 gt1
  show Wp p e below _ (T.setTop (mkF m 39 #[.val (.ref a), .val (.ref b), .val (.int (0 : Int32)), .val (.int (2 : Int32)), .val .null, .unset] [(.ref t1)]))
  refine w_astore X #[.val (.ref a), .val (.ref b), .val (.int (0 : Int32)), .val (.int (2 : Int32)), .val .null, .val (.ref t1)] djdk_42_149_39 (rfl) rfl ?_
  refine w_aloadN X djdk_42_149_41 rfl (rfl) ?_
  refine w_aload X djdk_42_149_42 rfl (rfl) ?_
  refine w_iloadN X djdk_42_149_44 rfl ?_
  refine w_callS X djdk_42_149_45 (wd_28 hw) (wd_29 hw) (wd_22 hw) (wd_30 hw) (by decide) (argsL := [(.ref t1), (.int (2 : Int32))]) (S := [(.ref a)]) (m_cfal_2 hw At1) pd_7 rfl rfl rfl (by decide) (Nat.le_of_ble_eq_true rfl) (by decide) (by decide) (fun T h2 v2 L2 X q2 => ?_)
  obtain ⟨rfl, rfl⟩ := q2
  show Wp p e below _ (T.setTop (mkF m 48 #[.val (.ref a), .val (.ref b), .val (.int (0 : Int32)), .val (.int (2 : Int32)), .val .null, .val (.ref t1)] [(.int (0 : Int32)), (.ref a)]))
  have f2 := (Ea.keep Kc1)
  have f3 := (Ca.keep Kc1 (List.not_mem_nil))
  refine w_putFN X djdk_42_149_48 (wd_31 hw) Via.refl f3 f2 (Or.inr ⟨(wd_32 hw), rfl, rfl⟩) (wd_6 hw) (ty := .byte) (by decide) (.int (0 : Int32)) rfl (by decide) ga (fun T h3 X W3 => ?_)
  have f4 := f3.same W3
  have K5 : Keep h0 h3 [a] := K1.wr W3 (Or.inl (List.mem_of_getElem? (i := 0) rfl))
  refine w_aloadN X djdk_42_149_51 rfl (rfl) ?_
  refine w_aload X djdk_42_149_52 rfl (rfl) ?_
  have f6 := (f2.wr W3)
  have f7 := ((Va.keep Kc1 (List.not_mem_nil)).other W3 (Or.inr (slot_ne (Or.inr (wd_34 hw)) (Or.inr (wd_32 hw)) (by decide) (t := (.array .byte)) (t' := .byte) (by decide) (by decide))))
  refine w_putF X djdk_42_149_54 (host := "") (Or.inl (wd_33 hw)) Via.refl f7 f6 (Or.inr ⟨(wd_34 hw), rfl, rfl⟩) (wd_6 hw) (ty := (.array .byte)) (by decide) rfl rfl ga (fun T h4 X W4 => ?_)
  have f8 := f7.same W4
  have K9 : Keep h0 h4 [a] := K5.wr W4 (Or.inl (List.mem_of_getElem? (i := 0) rfl))
  have f10 := (f6.wr W4)
  have f11 := (f4.other W4 (Or.inr (slot_ne (Or.inr (wd_32 hw)) (Or.inr (wd_34 hw)) (by decide) (t := .byte) (t' := (.array .byte)) (by decide) (by decide))))
  have f12 := ((At1.other W3 (Ne.symm (Nat.ne_of_lt (Nat.lt_of_lt_of_le Ea.lt gt1)))).other W4 (Ne.symm (Nat.ne_of_lt (Nat.lt_of_lt_of_le Ea.lt gt1))))
  exact w_retV X djdk_42_149_57 ⟨rfl, f10, f11, K9, _, sz_t1, gn1, f8, f12⟩ (by decide) (by decide)
set_option maxRecDepth 65536 in
set_option maxHeartbeats 40000000 in
theorem m_si_2 {l : Launch} {Z : State} {a0 : Array Value} {n0 : Nat} (hw : ∀ d ∈ tables_1, d.before a0 Z = true) {h0 : Heap} {zc : Int32} {fm : Value} {a b : Addr} {c0 c1 : Int32} (hS : own_S Z zc fm) (ga : n0 ≤ a) (Ea : Exa Z h0 a "java/lang/String") (Va : Fld Z h0 a "java/lang/String" "value" "[B" .null) (Ca : Fld Z h0 a "java/lang/String" "coder" "B" (.int (0 : Int32))) (Ab : Ary Z h0 b .char [(.int c0), (.int c1)]) (l0 : ¬ (255 : Int32) < c0) (l1 : ¬ (255 : Int32) < c1) :
    Does l Z n0 ⟨"java/lang/String", "<init>", "([C)V"⟩ jdk_42_method_3_code 2 none [] { frames := 5, cells := 2, slots := 6, locals := 74 } #[(.ref a), (.ref b)] h0 (fun v h => v = none ∧ Exa Z h a "java/lang/String" ∧ Fld Z h a "java/lang/String" "coder" "B" (.int (0 : Int32)) ∧ Keep h0 h [a] ∧ ∃ t, h0.size ≤ t ∧ n0 ≤ t ∧ Fld Z h a "java/lang/String" "value" "[B" (.ref t) ∧ Ary Z h t .byte [(.int (c0.toInt8.toInt32)), (.int (c1.toInt8.toInt32))]) := by
  refine Does.start (plainFor_of_name pn_4) ?_
  obtain ⟨S_zc, hzc, S_fm, hfm⟩ := id hS
  intro p e s m below meth c T X
  replace X : Sd Z n0 0 jdk_42_method_3_code 2 "java/lang/String" "<init>" none h0 p l e { frames := 5, cells := 2, slots := 6, locals := 74 } s m #[(.ref a), (.ref b)] below meth c T [] 0 0 := X
  refine Wp.cast (g' := mkF m 0 #[.val (.ref a), .val (.ref b)] []) (by first | (simp [entryFrame, mkF, argsToLocals, Value.category, maxLocals]; done) | rfl) ?_
  refine w_aloadN X djdk_42_3_0 rfl (rfl) ?_
  refine w_aloadN X djdk_42_3_1 rfl (rfl) ?_
  refine w_iconst X (0 : Int32) djdk_42_3_2 rfl ?_
  refine w_aloadN X djdk_42_3_3 rfl (rfl) ?_
  refine w_arrlen X (2 : Int32) djdk_42_3_4 Ab rfl ?_
  refine w_aconstNull X djdk_42_3_5 ?_
  refine w_callI X djdk_42_3_6 rfl (wd_12 hw) (wd_13 hw) (wd_7 hw) (wd_15 hw) (by decide) (argsL := [(.ref b), (.int (0 : Int32)), (.int (2 : Int32)), .null]) (S := []) (m_si4_2 hw hS ga Ea Va Ca Ab l0 l1) pd_3 rfl rfl rfl (by decide) (Nat.le_of_ble_eq_true rfl) (by decide) (by decide) (fun T h1 v1 L1 X q1 => ?_)
  obtain ⟨rfl, r1⟩ := q1
  show Wp p e below _ (T.setTop (mkF m 9 #[.val (.ref a), .val (.ref b)] []))
  exact w_retV X djdk_42_3_9 ⟨rfl, r1⟩ (by decide) (by decide)
set_option maxRecDepth 65536 in
set_option maxHeartbeats 40000000 in
theorem m_c5_2_0 {l : Launch} {Z : State} {a0 : Array Value} {n0 : Nat} (hw : ∀ d ∈ tables_1, d.before a0 Z = true) {h0 : Heap} {a b : Addr} {c0 c1 : Int32} (Aa : Ary Z h0 a .char [(.int c0), (.int c1)]) (Ab : Ary Z h0 b .byte [(.int (0 : Int32)), (.int (0 : Int32))]) (gb : n0 ≤ b) (nab : a ≠ b)  (gk : (255 : Int32) < c0) :
    Does l Z n0 ⟨"java/lang/StringUTF16", "compress", "([CI[BII)I"⟩ jdk_52_method_21_code 7 (some .int) [] { frames := 0, cells := 0, slots := 0, locals := 0 } #[(.ref a), (.int (0 : Int32)), (.ref b), (.int (0 : Int32)), (.int (2 : Int32))] h0 (fun v h => v = some (.int (0 : Int32)) ∧ Keep h0 h [b]) := by
  refine Does.start (plainFor_of_name pn_5) ?_
  intro p e s m below meth c T X
  replace X : Sd Z n0 0 jdk_52_method_21_code 7 "java/lang/StringUTF16" "compress" (some .int) h0 p l e { frames := 0, cells := 0, slots := 0, locals := 0 } s m #[(.ref a), (.int (0 : Int32)), (.ref b), (.int (0 : Int32)), (.int (2 : Int32))] below meth c T [] 0 0 := X
  refine Wp.cast (g' := mkF m 0 #[.val (.ref a), .val (.int (0 : Int32)), .val (.ref b), .val (.int (0 : Int32)), .val (.int (2 : Int32)), .unset, .unset] []) (by first | (simp [entryFrame, mkF, argsToLocals, Value.category, maxLocals]; done) | rfl) ?_
  refine w_iconst X (0 : Int32) djdk_52_21_0 rfl ?_
  refine w_istore X #[.val (.ref a), .val (.int (0 : Int32)), .val (.ref b), .val (.int (0 : Int32)), .val (.int (2 : Int32)), .val (.int (0 : Int32)), .unset] djdk_52_21_1 rfl ?_
  refine w_iload X djdk_52_21_3 rfl ?_
  refine w_iload X djdk_52_21_5 rfl ?_
  refine w_icmpge X djdk_52_21_7 (fun hc => absurd (by decide) hc) (fun _ => ?_)
  refine w_aloadN X djdk_52_21_10 rfl (rfl) ?_
  refine w_iloadN X djdk_52_21_11 rfl ?_
  refine w_caload X djdk_52_21_12 Aa (by decide) rfl ?_
  refine w_istore X #[.val (.ref a), .val (.int (0 : Int32)), .val (.ref b), .val (.int (0 : Int32)), .val (.int (2 : Int32)), .val (.int (0 : Int32)), .val (.int c0)] djdk_52_21_13 rfl ?_
  refine w_iload X djdk_52_21_15 rfl ?_
  refine w_sipush X (255 : Int32) djdk_52_21_17 rfl ?_
  refine w_icmple X djdk_52_21_20 (fun hc => absurd gk hc) (fun _ => ?_)
  refine w_iload X djdk_52_21_23 rfl ?_
  exact w_retI X djdk_52_21_25 ⟨rfl, (Keep.refl h0 [b])⟩ (by decide) (by decide)
set_option maxRecDepth 65536 in
set_option maxHeartbeats 40000000 in
theorem m_nbl_2 {l : Launch} {Z : State} {a0 : Array Value} {n0 : Nat} (hw : ∀ d ∈ tables_1, d.before a0 Z = true) {h0 : Heap}   :
    Does l Z n0 ⟨"java/lang/StringUTF16", "newBytesLength", "(I)I"⟩ jdk_52_method_3_code 1 (some .int) [] { frames := 0, cells := 0, slots := 0, locals := 0 } #[(.int (2 : Int32))] h0 (fun v h => v = some (.int (4 : Int32)) ∧ h0 = h) := by
  refine Does.start (plainFor_of_name pn_5) ?_
  intro p e s m below meth c T X
  replace X : Sd Z n0 0 jdk_52_method_3_code 1 "java/lang/StringUTF16" "newBytesLength" (some .int) h0 p l e { frames := 0, cells := 0, slots := 0, locals := 0 } s m #[(.int (2 : Int32))] below meth c T [] 0 0 := X
  refine Wp.cast (g' := mkF m 0 #[.val (.int (2 : Int32))] []) (by first | (simp [entryFrame, mkF, argsToLocals, Value.category, maxLocals]; done) | rfl) ?_
  refine w_iloadN X djdk_52_3_0 rfl ?_
  refine w_ifge X djdk_52_3_1 (fun _ => ?_) (fun hc => absurd hc (by decide))
  refine w_iloadN X djdk_52_3_12 rfl ?_
  refine w_ldcI X djdk_52_3_13 (wd_110 hw) ?_
  refine w_icmplt X djdk_52_3_15 (fun _ => ?_) (fun hc => absurd (by decide) hc)
  refine w_iloadN X djdk_52_3_55 rfl ?_
  refine w_iconst X (1 : Int32) djdk_52_3_56 rfl ?_
  refine w_ishl X djdk_52_3_57 ?_
  exact w_retI X djdk_52_3_58 ⟨rfl, rfl⟩ (by decide) (by decide)
set_option maxRecDepth 65536 in
set_option maxHeartbeats 40000000 in
theorem m_nbf_2 {l : Launch} {Z : State} {a0 : Array Value} {n0 : Nat} (hw : ∀ d ∈ tables_1, d.before a0 Z = true) {h0 : Heap}   :
    Does l Z n0 ⟨"java/lang/StringUTF16", "newBytesFor", "(I)[B"⟩ jdk_52_method_2_code 1 (some (.array .byte)) [] { frames := 1, cells := 1, slots := 4, locals := 12 } #[(.int (2 : Int32))] h0 (fun v h => ∃ t, v = some (.ref t) ∧ h0.size ≤ t ∧ n0 ≤ t ∧ Ary Z h t .byte [(.int (0 : Int32)), (.int (0 : Int32)), (.int (0 : Int32)), (.int (0 : Int32))] ∧ Keep h0 h []) := by
  refine Does.start (plainFor_of_name pn_5) ?_
  intro p e s m below meth c T X
  replace X : Sd Z n0 0 jdk_52_method_2_code 1 "java/lang/StringUTF16" "newBytesFor" (some (.array .byte)) h0 p l e { frames := 1, cells := 1, slots := 4, locals := 12 } s m #[(.int (2 : Int32))] below meth c T [] 0 0 := X
  refine Wp.cast (g' := mkF m 0 #[.val (.int (2 : Int32))] []) (by first | (simp [entryFrame, mkF, argsToLocals, Value.category, maxLocals]; done) | rfl) ?_
  refine w_iloadN X djdk_52_2_0 rfl ?_
  refine w_callS X djdk_52_2_1 (wd_107 hw) (wd_108 hw) (wd_22 hw) (wd_109 hw) (by decide) (argsL := [(.int (2 : Int32))]) (S := []) (m_nbl_2 hw) pd_8 rfl rfl rfl (by decide) (Nat.le_of_ble_eq_true rfl) (by decide) (by decide) (fun T h1 v1 L1 X q1 => ?_)
  obtain ⟨rfl, rfl⟩ := q1
  show Wp p e below _ (T.setTop (mkF m 4 #[.val (.int (2 : Int32))] [(.int (4 : Int32))]))
  refine w_newarr X djdk_52_2_4 (wd_24 hw) 4 4 (by decide) (by decide) (by decide) (by decide) (by decide) (by decide) (fun T h2 b2 g2 gn2 X E2 A2 => ?_)
  replace A2 : Ary Z h2 b2 .byte [(.int (0 : Int32)), (.int (0 : Int32)), (.int (0 : Int32)), (.int (0 : Int32))] := A2
  have sz_b2 : h0.size ≤ b2 := Nat.le_trans (Keep.refl h0 []).1 (Nat.le_of_eq g2.symm)
  have K1 : Keep h0 h2 [] := (Keep.refl h0 []).ext E2
  exact w_retR X rfl (rfl) rfl djdk_52_2_6 ⟨_, rfl, sz_b2, gn2, A2, K1⟩ (by decide) (by decide)
set_option maxRecDepth 65536 in
set_option maxHeartbeats 40000000 in
theorem m_put_2_0 {l : Launch} {Z : State} {a0 : Array Value} {n0 : Nat} (hw : ∀ d ∈ tables_1, d.before a0 Z = true) {h0 : Heap} {a : Addr} {x0 x1 x2 x3 d : Int32} {zc : Int32} {fm : Value} (hU : own_U Z zc fm) (ga : n0 ≤ a) (Aa : Ary Z h0 a .byte [(.int x0), (.int x1), (.int x2), (.int x3)]) :
    Does l Z n0 ⟨"java/lang/StringUTF16", "putChar", "([BII)V"⟩ jdk_52_method_4_code 3 none [] { frames := 0, cells := 0, slots := 0, locals := 0 } #[(.ref a), (.int (0 : Int32)), (.int d)] h0 (fun v h => v = none ∧ Ary Z h a .byte [(.int ((d >>> ((0 : Int32) &&& 31)).toInt8.toInt32)), (.int ((d >>> ((8 : Int32) &&& 31)).toInt8.toInt32)), (.int x2), (.int x3)] ∧ Keep h0 h [a]) := by
  refine Does.start (plainFor_of_name pn_5) ?_
  obtain ⟨hS, S_ad, S_hi, S_lo⟩ := id hU
  obtain ⟨S_zc, hzc, S_fm, hfm⟩ := id hS
  intro p e s m below meth c T X
  replace X : Sd Z n0 0 jdk_52_method_4_code 3 "java/lang/StringUTF16" "putChar" none h0 p l e { frames := 0, cells := 0, slots := 0, locals := 0 } s m #[(.ref a), (.int (0 : Int32)), (.int d)] below meth c T [] 0 0 := X
  refine Wp.cast (g' := mkF m 0 #[.val (.ref a), .val (.int (0 : Int32)), .val (.int d)] []) (by first | (simp [entryFrame, mkF, argsToLocals, Value.category, maxLocals]; done) | rfl) ?_
  refine w_getS X djdk_52_4_0 (host := "") (Or.inl (wd_114 hw)) Via.refl (S_ad.ext X.old.2) (fun T X => ?_)
  refine w_ifne X djdk_52_4_3 (fun _ => ?_) (fun hc => absurd hc (by decide))
  refine w_iloadN X djdk_52_4_28 rfl ?_
  refine w_iconst X (1 : Int32) djdk_52_4_29 rfl ?_
  refine w_ishl X djdk_52_4_30 ?_
  refine w_istoreN X #[.val (.ref a), .val (.int (0 : Int32)), .val (.int d)] djdk_52_4_31 rfl ?_
  refine w_aloadN X djdk_52_4_32 rfl (rfl) ?_
  refine w_iloadN X djdk_52_4_33 rfl ?_
  refine w_iinc X (1 : Int32) #[.val (.ref a), .val (.int (1 : Int32)), .val (.int d)] djdk_52_4_34 rfl rfl rfl ?_
  refine w_iloadN X djdk_52_4_37 rfl ?_
  refine w_getS X djdk_52_4_38 (host := "") (Or.inl (wd_115 hw)) Via.refl (S_hi.ext X.old.2) (fun T X => ?_)
  refine w_ishr X djdk_52_4_41 ?_
  refine w_i2b X djdk_52_4_42 ?_
  refine w_bastore X djdk_52_4_43 Aa (by decide) rfl ga (.int ((d >>> ((0 : Int32) &&& 31)).toInt8.toInt32)) (congrArg Value.int (own_nar_b _)) [(.int ((d >>> ((0 : Int32) &&& 31)).toInt8.toInt32)), (.int x1), (.int x2), (.int x3)] rfl (fun T h1 X W1 A1 => ?_)
  have K1 : Keep h0 h1 [a] := (Keep.refl h0 [a]).wr W1 (Or.inl (List.mem_of_getElem? (i := 0) rfl))
  refine w_aloadN X djdk_52_4_44 rfl (rfl) ?_
  refine w_iloadN X djdk_52_4_45 rfl ?_
  refine w_iloadN X djdk_52_4_46 rfl ?_
  refine w_getS X djdk_52_4_47 (host := "") (Or.inl (wd_116 hw)) Via.refl (S_lo.ext X.old.2) (fun T X => ?_)
  refine w_ishr X djdk_52_4_50 ?_
  refine w_i2b X djdk_52_4_51 ?_
  refine w_bastore X djdk_52_4_52 A1 (by decide) rfl ga (.int ((d >>> ((8 : Int32) &&& 31)).toInt8.toInt32)) (congrArg Value.int (own_nar_b _)) [(.int ((d >>> ((0 : Int32) &&& 31)).toInt8.toInt32)), (.int ((d >>> ((8 : Int32) &&& 31)).toInt8.toInt32)), (.int x2), (.int x3)] rfl (fun T h2 X W2 A2 => ?_)
  have K2 : Keep h0 h2 [a] := K1.wr W2 (Or.inl (List.mem_of_getElem? (i := 0) rfl))
  exact w_retV X djdk_52_4_53 ⟨rfl, A2, K2⟩ (by decide) (by decide)
set_option maxRecDepth 65536 in
set_option maxHeartbeats 40000000 in
theorem m_put_2_1 {l : Launch} {Z : State} {a0 : Array Value} {n0 : Nat} (hw : ∀ d ∈ tables_1, d.before a0 Z = true) {h0 : Heap} {a : Addr} {x0 x1 x2 x3 d : Int32} {zc : Int32} {fm : Value} (hU : own_U Z zc fm) (ga : n0 ≤ a) (Aa : Ary Z h0 a .byte [(.int x0), (.int x1), (.int x2), (.int x3)]) :
    Does l Z n0 ⟨"java/lang/StringUTF16", "putChar", "([BII)V"⟩ jdk_52_method_4_code 3 none [] { frames := 0, cells := 0, slots := 0, locals := 0 } #[(.ref a), (.int (1 : Int32)), (.int d)] h0 (fun v h => v = none ∧ Ary Z h a .byte [(.int x0), (.int x1), (.int ((d >>> ((0 : Int32) &&& 31)).toInt8.toInt32)), (.int ((d >>> ((8 : Int32) &&& 31)).toInt8.toInt32))] ∧ Keep h0 h [a]) := by
  refine Does.start (plainFor_of_name pn_5) ?_
  obtain ⟨hS, S_ad, S_hi, S_lo⟩ := id hU
  obtain ⟨S_zc, hzc, S_fm, hfm⟩ := id hS
  intro p e s m below meth c T X
  replace X : Sd Z n0 0 jdk_52_method_4_code 3 "java/lang/StringUTF16" "putChar" none h0 p l e { frames := 0, cells := 0, slots := 0, locals := 0 } s m #[(.ref a), (.int (1 : Int32)), (.int d)] below meth c T [] 0 0 := X
  refine Wp.cast (g' := mkF m 0 #[.val (.ref a), .val (.int (1 : Int32)), .val (.int d)] []) (by first | (simp [entryFrame, mkF, argsToLocals, Value.category, maxLocals]; done) | rfl) ?_
  refine w_getS X djdk_52_4_0 (host := "") (Or.inl (wd_114 hw)) Via.refl (S_ad.ext X.old.2) (fun T X => ?_)
  refine w_ifne X djdk_52_4_3 (fun _ => ?_) (fun hc => absurd hc (by decide))
  refine w_iloadN X djdk_52_4_28 rfl ?_
  refine w_iconst X (1 : Int32) djdk_52_4_29 rfl ?_
  refine w_ishl X djdk_52_4_30 ?_
  refine w_istoreN X #[.val (.ref a), .val (.int (2 : Int32)), .val (.int d)] djdk_52_4_31 rfl ?_
  refine w_aloadN X djdk_52_4_32 rfl (rfl) ?_
  refine w_iloadN X djdk_52_4_33 rfl ?_
  refine w_iinc X (1 : Int32) #[.val (.ref a), .val (.int (3 : Int32)), .val (.int d)] djdk_52_4_34 rfl rfl rfl ?_
  refine w_iloadN X djdk_52_4_37 rfl ?_
  refine w_getS X djdk_52_4_38 (host := "") (Or.inl (wd_115 hw)) Via.refl (S_hi.ext X.old.2) (fun T X => ?_)
  refine w_ishr X djdk_52_4_41 ?_
  refine w_i2b X djdk_52_4_42 ?_
  refine w_bastore X djdk_52_4_43 Aa (by decide) rfl ga (.int ((d >>> ((0 : Int32) &&& 31)).toInt8.toInt32)) (congrArg Value.int (own_nar_b _)) [(.int x0), (.int x1), (.int ((d >>> ((0 : Int32) &&& 31)).toInt8.toInt32)), (.int x3)] rfl (fun T h1 X W1 A1 => ?_)
  have K1 : Keep h0 h1 [a] := (Keep.refl h0 [a]).wr W1 (Or.inl (List.mem_of_getElem? (i := 0) rfl))
  refine w_aloadN X djdk_52_4_44 rfl (rfl) ?_
  refine w_iloadN X djdk_52_4_45 rfl ?_
  refine w_iloadN X djdk_52_4_46 rfl ?_
  refine w_getS X djdk_52_4_47 (host := "") (Or.inl (wd_116 hw)) Via.refl (S_lo.ext X.old.2) (fun T X => ?_)
  refine w_ishr X djdk_52_4_50 ?_
  refine w_i2b X djdk_52_4_51 ?_
  refine w_bastore X djdk_52_4_52 A1 (by decide) rfl ga (.int ((d >>> ((8 : Int32) &&& 31)).toInt8.toInt32)) (congrArg Value.int (own_nar_b _)) [(.int x0), (.int x1), (.int ((d >>> ((0 : Int32) &&& 31)).toInt8.toInt32)), (.int ((d >>> ((8 : Int32) &&& 31)).toInt8.toInt32))] rfl (fun T h2 X W2 A2 => ?_)
  have K2 : Keep h0 h2 [a] := K1.wr W2 (Or.inl (List.mem_of_getElem? (i := 0) rfl))
  exact w_retV X djdk_52_4_53 ⟨rfl, A2, K2⟩ (by decide) (by decide)
set_option maxRecDepth 65536 in
set_option maxHeartbeats 40000000 in
theorem m_tob16_2 {l : Launch} {Z : State} {a0 : Array Value} {n0 : Nat} (hw : ∀ d ∈ tables_1, d.before a0 Z = true) {h0 : Heap} {zc : Int32} {fm : Value} {a : Addr} {c0 c1 : Int32} (hU : own_U Z zc fm) (Aa : Ary Z h0 a .char [(.int c0), (.int c1)]) :
    Does l Z n0 ⟨"java/lang/StringUTF16", "toBytes", "([CII)[B"⟩ jdk_52_method_14_code 5 (some (.array .byte)) [] { frames := 2, cells := 1, slots := 4, locals := 24 } #[(.ref a), (.int (0 : Int32)), (.int (2 : Int32))] h0 (fun v h => ∃ t, v = some (.ref t) ∧ h0.size ≤ t ∧ n0 ≤ t ∧ Ary Z h t .byte [(.int ((c0 >>> ((0 : Int32) &&& 31)).toInt8.toInt32)), (.int ((c0 >>> ((8 : Int32) &&& 31)).toInt8.toInt32)), (.int ((c1 >>> ((0 : Int32) &&& 31)).toInt8.toInt32)), (.int ((c1 >>> ((8 : Int32) &&& 31)).toInt8.toInt32))] ∧ Keep h0 h []) := by
  refine Does.start (plainFor_of_name pn_5) ?_
  obtain ⟨hS, S_ad, S_hi, S_lo⟩ := id hU
  obtain ⟨S_zc, hzc, S_fm, hfm⟩ := id hS
  intro p e s m below meth c T X
  replace X : Sd Z n0 0 jdk_52_method_14_code 5 "java/lang/StringUTF16" "toBytes" (some (.array .byte)) h0 p l e { frames := 2, cells := 1, slots := 4, locals := 24 } s m #[(.ref a), (.int (0 : Int32)), (.int (2 : Int32))] below meth c T [] 0 0 := X
  refine Wp.cast (g' := mkF m 0 #[.val (.ref a), .val (.int (0 : Int32)), .val (.int (2 : Int32)), .unset, .unset] []) (by first | (simp [entryFrame, mkF, argsToLocals, Value.category, maxLocals]; done) | rfl) ?_
  refine w_iloadN X djdk_52_14_0 rfl ?_
  refine w_callS X djdk_52_14_1 (wd_104 hw) (wd_105 hw) (wd_22 hw) (wd_106 hw) (by decide) (argsL := [(.int (2 : Int32))]) (S := []) (m_nbf_2 hw) pd_9 rfl rfl rfl (by decide) (Nat.le_of_ble_eq_true rfl) (by decide) (by decide) (fun T h1 v1 L1 X q1 => ?_)
  obtain ⟨t1, rfl, gt1, gn1, At1, Kc1⟩ := q1
  have K1 : Keep h0 h1 [] := (Keep.refl h0 []).trans Kc1 (fun x hx => nomatch hx)
  have sz_t1 : h0.size ≤ t1 := Nat.le_trans (Keep.refl h0 []).1 gt1
  show Wp p e below _ (T.setTop (mkF m 4 #[.val (.ref a), .val (.int (0 : Int32)), .val (.int (2 : Int32)), .unset, .unset] [(.ref t1)]))
  refine w_astoreN X #[.val (.ref a), .val (.int (0 : Int32)), .val (.int (2 : Int32)), .val (.ref t1), .unset] djdk_52_14_4 (rfl) rfl ?_
  refine w_iconst X (0 : Int32) djdk_52_14_5 rfl ?_
  refine w_istore X #[.val (.ref a), .val (.int (0 : Int32)), .val (.int (2 : Int32)), .val (.ref t1), .val (.int (0 : Int32))] djdk_52_14_6 rfl ?_
  refine w_iload X djdk_52_14_8 rfl ?_
  refine w_iloadN X djdk_52_14_10 rfl ?_
  refine w_icmpge X djdk_52_14_11 (fun hc => absurd (by decide) hc) (fun _ => ?_)
  refine w_aloadN X djdk_52_14_14 rfl (rfl) ?_
  refine w_iload X djdk_52_14_15 rfl ?_
  refine w_aloadN X djdk_52_14_17 rfl (rfl) ?_
  refine w_iloadN X djdk_52_14_18 rfl ?_
  have f2 := (Aa.keep Kc1 (List.not_mem_nil))
  refine w_caload X djdk_52_14_19 f2 (by decide) rfl ?_
  refine w_callS X djdk_52_14_20 (wd_111 hw) (wd_112 hw) (wd_22 hw) (wd_113 hw) (by decide) (argsL := [(.ref t1), (.int (0 : Int32)), (.int c0)]) (S := []) (m_put_2_0 hw (d := c0) hU gn1 At1) pd_10 rfl rfl rfl (by decide) (Nat.le_of_ble_eq_true rfl) (by decide) (by decide) (fun T h2 v2 L2 X q2 => ?_)
  obtain ⟨rfl, Ap2, Kc2⟩ := q2
  have K3 : Keep h0 h2 [] := K1.trans Kc2 (fun x hx => by cases List.mem_singleton.mp hx; exact (Or.inr sz_t1))
  show Wp p e below _ (T.setTop (mkF m 23 #[.val (.ref a), .val (.int (0 : Int32)), .val (.int (2 : Int32)), .val (.ref t1), .val (.int (0 : Int32))] []))
  refine w_iinc X (1 : Int32) #[.val (.ref a), .val (.int (1 : Int32)), .val (.int (2 : Int32)), .val (.ref t1), .val (.int (0 : Int32))] djdk_52_14_23 rfl rfl rfl ?_
  refine w_iinc X (1 : Int32) #[.val (.ref a), .val (.int (1 : Int32)), .val (.int (2 : Int32)), .val (.ref t1), .val (.int (1 : Int32))] djdk_52_14_26 rfl rfl rfl ?_
  refine w_goto X djdk_52_14_29 ?_
  refine w_iload X djdk_52_14_8 rfl ?_
  refine w_iloadN X djdk_52_14_10 rfl ?_
  refine w_icmpge X djdk_52_14_11 (fun hc => absurd (by decide) hc) (fun _ => ?_)
  refine w_aloadN X djdk_52_14_14 rfl (rfl) ?_
  refine w_iload X djdk_52_14_15 rfl ?_
  refine w_aloadN X djdk_52_14_17 rfl (rfl) ?_
  refine w_iloadN X djdk_52_14_18 rfl ?_
  have f4 := (f2.keep Kc2 (by simp only [List.mem_cons, List.not_mem_nil, or_false]; exact (Nat.ne_of_lt (Nat.lt_of_lt_of_le Aa.lt gt1))))
  refine w_caload X djdk_52_14_19 f4 (by decide) rfl ?_
  refine w_callS X djdk_52_14_20 (wd_111 hw) (wd_112 hw) (wd_22 hw) (wd_113 hw) (by decide) (argsL := [(.ref t1), (.int (1 : Int32)), (.int c1)]) (S := []) (m_put_2_1 hw (d := c1) hU gn1 Ap2) pd_10 rfl rfl rfl (by decide) (Nat.le_of_ble_eq_true rfl) (by decide) (by decide) (fun T h3 v3 L3 X q3 => ?_)
  obtain ⟨rfl, Ap3, Kc3⟩ := q3
  have K5 : Keep h0 h3 [] := K3.trans Kc3 (fun x hx => by cases List.mem_singleton.mp hx; exact (Or.inr sz_t1))
  show Wp p e below _ (T.setTop (mkF m 23 #[.val (.ref a), .val (.int (1 : Int32)), .val (.int (2 : Int32)), .val (.ref t1), .val (.int (1 : Int32))] []))
  refine w_iinc X (1 : Int32) #[.val (.ref a), .val (.int (2 : Int32)), .val (.int (2 : Int32)), .val (.ref t1), .val (.int (1 : Int32))] djdk_52_14_23 rfl rfl rfl ?_
  refine w_iinc X (1 : Int32) #[.val (.ref a), .val (.int (2 : Int32)), .val (.int (2 : Int32)), .val (.ref t1), .val (.int (2 : Int32))] djdk_52_14_26 rfl rfl rfl ?_
  refine w_goto X djdk_52_14_29 ?_
  refine w_iload X djdk_52_14_8 rfl ?_
  refine w_iloadN X djdk_52_14_10 rfl ?_
  refine w_icmpge X djdk_52_14_11 (fun _ => ?_) (fun hc => absurd hc Int32.lt_irrefl)
  refine w_aloadN X djdk_52_14_32 rfl (rfl) ?_
  exact w_retR X rfl (rfl) rfl djdk_52_14_33 ⟨_, rfl, sz_t1, gn1, Ap3, K5⟩ (by decide) (by decide)
set_option maxRecDepth 65536 in
set_option maxHeartbeats 40000000 in
theorem m_getc_2_0 {l : Launch} {Z : State} {a0 : Array Value} {n0 : Nat} (hw : ∀ d ∈ tables_1, d.before a0 Z = true) {h0 : Heap} {zc : Int32} {fm : Value} {a : Addr} {r x0 x1 x2 x3 : Int32} (hU : own_U Z zc fm) (Aa : Ary Z h0 a .byte [(.int x0), (.int x1), (.int x2), (.int x3)]) (hr : (((x0 &&& (255 : Int32)) <<< ((0 : Int32) &&& 31)) ||| ((x1 &&& (255 : Int32)) <<< ((8 : Int32) &&& 31))).toUInt32.toUInt16.toUInt32.toInt32 = r) :
    Does l Z n0 ⟨"java/lang/StringUTF16", "getChar", "([BI)C"⟩ jdk_52_method_5_code 2 (some .char) [] { frames := 0, cells := 0, slots := 0, locals := 0 } #[(.ref a), (.int (0 : Int32))] h0 (fun v h => v = some (.int r) ∧ h0 = h) := by
  refine Does.start (plainFor_of_name pn_5) ?_
  obtain ⟨hS, S_ad, S_hi, S_lo⟩ := id hU
  obtain ⟨S_zc, hzc, S_fm, hfm⟩ := id hS
  intro p e s m below meth c T X
  replace X : Sd Z n0 0 jdk_52_method_5_code 2 "java/lang/StringUTF16" "getChar" (some .char) h0 p l e { frames := 0, cells := 0, slots := 0, locals := 0 } s m #[(.ref a), (.int (0 : Int32))] below meth c T [] 0 0 := X
  refine Wp.cast (g' := mkF m 0 #[.val (.ref a), .val (.int (0 : Int32))] []) (by first | (simp [entryFrame, mkF, argsToLocals, Value.category, maxLocals]; done) | rfl) ?_
  refine w_getS X djdk_52_5_0 (host := "") (Or.inl (wd_114 hw)) Via.refl (S_ad.ext X.old.2) (fun T X => ?_)
  refine w_ifne X djdk_52_5_3 (fun _ => ?_) (fun hc => absurd hc (by decide))
  refine w_iloadN X djdk_52_5_28 rfl ?_
  refine w_iconst X (1 : Int32) djdk_52_5_29 rfl ?_
  refine w_ishl X djdk_52_5_30 ?_
  refine w_istoreN X #[.val (.ref a), .val (.int (0 : Int32))] djdk_52_5_31 rfl ?_
  refine w_aloadN X djdk_52_5_32 rfl (rfl) ?_
  refine w_iloadN X djdk_52_5_33 rfl ?_
  refine w_iinc X (1 : Int32) #[.val (.ref a), .val (.int (1 : Int32))] djdk_52_5_34 rfl rfl rfl ?_
  refine w_baload X djdk_52_5_37 Aa (by decide) rfl ?_
  refine w_sipush X (255 : Int32) djdk_52_5_38 rfl ?_
  refine w_iand X djdk_52_5_41 ?_
  refine w_getS X djdk_52_5_42 (host := "") (Or.inl (wd_115 hw)) Via.refl (S_hi.ext X.old.2) (fun T X => ?_)
  refine w_ishl X djdk_52_5_45 ?_
  refine w_aloadN X djdk_52_5_46 rfl (rfl) ?_
  refine w_iloadN X djdk_52_5_47 rfl ?_
  refine w_baload X djdk_52_5_48 Aa (by decide) rfl ?_
  refine w_sipush X (255 : Int32) djdk_52_5_49 rfl ?_
  refine w_iand X djdk_52_5_52 ?_
  refine w_getS X djdk_52_5_53 (host := "") (Or.inl (wd_116 hw)) Via.refl (S_lo.ext X.old.2) (fun T X => ?_)
  refine w_ishl X djdk_52_5_56 ?_
  refine w_ior X djdk_52_5_57 ?_
  refine w_i2c X djdk_52_5_58 ?_
  exact w_ret_char X ((((x0 &&& (255 : Int32)) <<< ((0 : Int32) &&& 31)) ||| ((x1 &&& (255 : Int32)) <<< ((8 : Int32) &&& 31))).toUInt32.toUInt16.toUInt32.toInt32) (own_nar_c _) djdk_52_5_59 ⟨by rw [hr], rfl⟩ (by decide) (by decide)
set_option maxRecDepth 65536 in
set_option maxHeartbeats 40000000 in
theorem m_c3_2_0 {l : Launch} {Z : State} {a0 : Array Value} {n0 : Nat} (hw : ∀ d ∈ tables_1, d.before a0 Z = true) {h0 : Heap} {zc : Int32} {fm : Value} {a : Addr} {c0 c1 : Int32} (hU : own_U Z zc fm) (Aa : Ary Z h0 a .char [(.int c0), (.int c1)]) (nc0 : nar .char c0 = c0) (nc1 : nar .char c1 = c1)  (gk : (255 : Int32) < c0) :
    Does l Z n0 ⟨"java/lang/StringUTF16", "compress", "([CII)[B"⟩ jdk_52_method_16_code 6 (some (.array .byte)) [] { frames := 3, cells := 2, slots := 6, locals := 40 } #[(.ref a), (.int (0 : Int32)), (.int (2 : Int32))] h0 (fun v h => ∃ t, v = some (.ref t) ∧ h0.size ≤ t ∧ n0 ≤ t ∧ Ary Z h t .byte [(.int ((c0 >>> ((0 : Int32) &&& 31)).toInt8.toInt32)), (.int ((c0 >>> ((8 : Int32) &&& 31)).toInt8.toInt32)), (.int ((c1 >>> ((0 : Int32) &&& 31)).toInt8.toInt32)), (.int ((c1 >>> ((8 : Int32) &&& 31)).toInt8.toInt32))] ∧ Keep h0 h []) := by
  refine Does.start (plainFor_of_name pn_5) ?_
  obtain ⟨hS, S_ad, S_hi, S_lo⟩ := id hU
  obtain ⟨S_zc, hzc, S_fm, hfm⟩ := id hS
  intro p e s m below meth c T X
  replace X : Sd Z n0 0 jdk_52_method_16_code 6 "java/lang/StringUTF16" "compress" (some (.array .byte)) h0 p l e { frames := 3, cells := 2, slots := 6, locals := 40 } s m #[(.ref a), (.int (0 : Int32)), (.int (2 : Int32))] below meth c T [] 0 0 := X
  refine Wp.cast (g' := mkF m 0 #[.val (.ref a), .val (.int (0 : Int32)), .val (.int (2 : Int32)), .unset, .unset, .unset] []) (by first | (simp [entryFrame, mkF, argsToLocals, Value.category, maxLocals]; done) | rfl) ?_
  refine w_iloadN X djdk_52_16_0 rfl ?_
  refine w_newarr X djdk_52_16_1 (wd_24 hw) 2 2 (by decide) (by decide) (by decide) (by decide) (by decide) (by decide) (fun T h1 b1 g1 gn1 X E1 A1 => ?_)
  replace A1 : Ary Z h1 b1 .byte [(.int (0 : Int32)), (.int (0 : Int32))] := A1
  have sz_b1 : h0.size ≤ b1 := Nat.le_trans (Keep.refl h0 []).1 (Nat.le_of_eq g1.symm)
  have K1 : Keep h0 h1 [] := (Keep.refl h0 []).ext E1
  refine w_astoreN X #[.val (.ref a), .val (.int (0 : Int32)), .val (.int (2 : Int32)), .val (.ref b1), .unset, .unset] djdk_52_16_3 (rfl) rfl ?_
  refine w_aloadN X djdk_52_16_4 rfl (rfl) ?_
  refine w_iloadN X djdk_52_16_5 rfl ?_
  refine w_aloadN X djdk_52_16_6 rfl (rfl) ?_
  refine w_iconst X (0 : Int32) djdk_52_16_7 rfl ?_
  refine w_iloadN X djdk_52_16_8 rfl ?_
  have f2 := (Aa.ext E1)
  refine w_callS X djdk_52_16_9 (wd_25 hw) (wd_26 hw) (wd_22 hw) (wd_27 hw) (by decide) (argsL := [(.ref a), (.int (0 : Int32)), (.ref b1), (.int (0 : Int32)), (.int (2 : Int32))]) (S := []) (m_c5_2_0 hw f2 A1 gn1 (Nat.ne_of_lt (Nat.lt_of_lt_of_le Aa.lt (Nat.le_of_eq g1.symm)))  gk) pd_5 rfl rfl rfl (by decide) (Nat.le_of_ble_eq_true rfl) (by decide) (by decide) (fun T h2 v2 L2 X q2 => ?_)
  obtain ⟨rfl, Kc2⟩ := q2
  have K3 : Keep h0 h2 [] := K1.trans Kc2 (fun x hx => by cases List.mem_singleton.mp hx; exact (Or.inr sz_b1))
  show Wp p e below _ (T.setTop (mkF m 12 #[.val (.ref a), .val (.int (0 : Int32)), .val (.int (2 : Int32)), .val (.ref b1), .unset, .unset] [(.int (0 : Int32))]))
  refine w_istore X #[.val (.ref a), .val (.int (0 : Int32)), .val (.int (2 : Int32)), .val (.ref b1), .val (.int (0 : Int32)), .unset] djdk_52_16_12 rfl ?_
  refine w_iload X djdk_52_16_14 rfl ?_
  refine w_iloadN X djdk_52_16_16 rfl ?_
  refine w_icmpeq X djdk_52_16_17 (fun hc => absurd hc (by decide)) (fun _ => ?_)
  refine w_aloadN X djdk_52_16_20 rfl (rfl) ?_
  refine w_iloadN X djdk_52_16_21 rfl ?_
  refine w_iloadN X djdk_52_16_22 rfl ?_
  have f4 := (f2.keep Kc2 (by simp only [List.mem_cons, List.not_mem_nil, or_false]; exact (Nat.ne_of_lt (Nat.lt_of_lt_of_le Aa.lt (Nat.le_of_eq g1.symm)))))
  refine w_callS X djdk_52_16_23 (wd_101 hw) (wd_102 hw) (wd_22 hw) (wd_103 hw) (by decide) (argsL := [(.ref a), (.int (0 : Int32)), (.int (2 : Int32))]) (S := []) (m_tob16_2 hw hU f4) pd_6 rfl rfl rfl (by decide) (Nat.le_of_ble_eq_true rfl) (by decide) (by decide) (fun T h3 v3 L3 X q3 => ?_)
  obtain ⟨t3, rfl, gt3, gn3, At3, Kc3⟩ := q3
  have K5 : Keep h0 h3 [] := K3.trans Kc3 (fun x hx => nomatch hx)
  have sz_t3 : h0.size ≤ t3 := Nat.le_trans K3.1 gt3
  show Wp p e below _ (T.setTop (mkF m 26 #[.val (.ref a), .val (.int (0 : Int32)), .val (.int (2 : Int32)), .val (.ref b1), .val (.int (0 : Int32)), .unset] [(.ref t3)]))
  refine w_astore X #[.val (.ref a), .val (.int (0 : Int32)), .val (.int (2 : Int32)), .val (.ref b1), .val (.int (0 : Int32)), .val (.ref t3)] djdk_52_16_26 (rfl) rfl ?_
  refine w_aload X djdk_52_16_28 rfl (rfl) ?_
  refine w_iload X djdk_52_16_30 rfl ?_
  refine w_callS X djdk_52_16_32 (wd_117 hw) (wd_118 hw) (wd_22 hw) (wd_119 hw) (by decide) (argsL := [(.ref t3), (.int (0 : Int32))]) (S := []) (m_getc_2_0 hw (r := c0) hU At3 (own_utf nc0)) pd_11 rfl rfl rfl (by decide) (Nat.le_of_ble_eq_true rfl) (by decide) (by decide) (fun T h4 v4 L4 X q4 => ?_)
  obtain ⟨rfl, rfl⟩ := q4
  show Wp p e below _ (T.setTop (mkF m 35 #[.val (.ref a), .val (.int (0 : Int32)), .val (.int (2 : Int32)), .val (.ref b1), .val (.int (0 : Int32)), .val (.ref t3)] [(.int c0)]))
  refine w_sipush X (255 : Int32) djdk_52_16_35 rfl ?_
  refine w_icmpgt X djdk_52_16_38 (fun _ => ?_) (fun hc => absurd gk hc)
  refine w_aload X djdk_52_16_54 rfl (rfl) ?_
  exact w_retR X rfl (rfl) rfl djdk_52_16_56 ⟨_, rfl, sz_t3, gn3, At3, K5⟩ (by decide) (by decide)
set_option maxRecDepth 65536 in
set_option maxHeartbeats 40000000 in
theorem m_cfal16_2 {l : Launch} {Z : State} {a0 : Array Value} {n0 : Nat} (hw : ∀ d ∈ tables_1, d.before a0 Z = true) {h0 : Heap} {a : Addr} {v0 v1 v2 v3 : Value} (Aa : Ary Z h0 a .byte [v0, v1, v2, v3]) :
    Does l Z n0 ⟨"java/lang/StringUTF16", "coderFromArrayLen", "([BI)B"⟩ jdk_52_method_15_code 2 (some .byte) [] { frames := 0, cells := 0, slots := 0, locals := 0 } #[(.ref a), (.int (2 : Int32))] h0 (fun v h => v = some (.int (1 : Int32)) ∧ h0 = h) := by
  refine Does.start (plainFor_of_name pn_5) ?_
  intro p e s m below meth c T X
  replace X : Sd Z n0 0 jdk_52_method_15_code 2 "java/lang/StringUTF16" "coderFromArrayLen" (some .byte) h0 p l e { frames := 0, cells := 0, slots := 0, locals := 0 } s m #[(.ref a), (.int (2 : Int32))] below meth c T [] 0 0 := X
  refine Wp.cast (g' := mkF m 0 #[.val (.ref a), .val (.int (2 : Int32))] []) (by first | (simp [entryFrame, mkF, argsToLocals, Value.category, maxLocals]; done) | rfl) ?_
  refine w_iloadN X djdk_52_15_0 rfl ?_
  refine w_aloadN X djdk_52_15_1 rfl (rfl) ?_
  refine w_arrlen X (4 : Int32) djdk_52_15_2 Aa rfl ?_
  refine w_isub X djdk_52_15_3 ?_
  refine w_bipush X (31 : Int32) djdk_52_15_4 rfl ?_
  refine w_iushr X djdk_52_15_6 ?_
  refine w_i2b X djdk_52_15_7 ?_
  exact w_ret_byte X (1 : Int32) (by decide) djdk_52_15_8 ⟨rfl, rfl⟩ (by decide) (by decide)
set_option maxRecDepth 65536 in
set_option maxHeartbeats 40000000 in
theorem m_si4_2_0 {l : Launch} {Z : State} {a0 : Array Value} {n0 : Nat} (hw : ∀ d ∈ tables_1, d.before a0 Z = true) {h0 : Heap} {zc : Int32} {fm : Value} {a b : Addr} {c0 c1 : Int32} (hU : own_U Z zc fm) (ga : n0 ≤ a) (Ea : Exa Z h0 a "java/lang/String") (Va : Fld Z h0 a "java/lang/String" "value" "[B" .null) (Ca : Fld Z h0 a "java/lang/String" "coder" "B" (.int (0 : Int32))) (Ab : Ary Z h0 b .char [(.int c0), (.int c1)]) (nc0 : nar .char c0 = c0) (nc1 : nar .char c1 = c1)  (gk : (255 : Int32) < c0) :
    Does l Z n0 ⟨"java/lang/String", "<init>", "([CIILjava/lang/Void;)V"⟩ jdk_42_method_149_code 6 none [] { frames := 4, cells := 2, slots := 6, locals := 57 } #[(.ref a), (.ref b), (.int (0 : Int32)), (.int (2 : Int32)), .null] h0 (fun v h => v = none ∧ Keep h0 h [a] ∧ ∃ t, h0.size ≤ t ∧ n0 ≤ t ∧ Txt Z h a t [c0, c1]) := by
  refine Does.start (plainFor_of_name pn_4) ?_
  obtain ⟨hS, S_ad, S_hi, S_lo⟩ := id hU
  obtain ⟨S_zc, hzc, S_fm, hfm⟩ := id hS
  intro p e s m below meth c T X
  replace X : Sd Z n0 0 jdk_42_method_149_code 6 "java/lang/String" "<init>" none h0 p l e { frames := 4, cells := 2, slots := 6, locals := 57 } s m #[(.ref a), (.ref b), (.int (0 : Int32)), (.int (2 : Int32)), .null] below meth c T [] 0 0 := X
  refine Wp.cast (g' := mkF m 0 #[.val (.ref a), .val (.ref b), .val (.int (0 : Int32)), .val (.int (2 : Int32)), .val .null, .unset] []) (by first | (simp [entryFrame, mkF, argsToLocals, Value.category, maxLocals]; done) | rfl) ?_
  refine w_aloadN X djdk_42_149_0 rfl (rfl) ?_
  refine w_initO X djdk_42_149_1 (wd_16 hw) (wd_17 hw) (wd_18 hw) rfl (by decide) (Nat.le_of_ble_eq_true rfl) (fun T X => ?_)
  refine w_iloadN X djdk_42_149_4 rfl ?_
  refine w_ifne X djdk_42_149_5 (fun _ => ?_) (fun hc => absurd hc (by decide))
  refine w_getS X djdk_42_149_27 (host := "") (Or.inl (wd_19 hw)) Via.refl (S_zc.ext X.old.2) (fun T X => ?_)
  refine w_ifeq X djdk_42_149_30 (fun hc => absurd hc hzc) (fun _ => ?_)
  refine w_aloadN X djdk_42_149_33 rfl (rfl) ?_
  refine w_iloadN X djdk_42_149_34 rfl ?_
  refine w_iloadN X djdk_42_149_35 rfl ?_
  refine w_callS X djdk_42_149_36 (wd_20 hw) (wd_21 hw) (wd_22 hw) (wd_23 hw) (by decide) (argsL := [(.ref b), (.int (0 : Int32)), (.int (2 : Int32))]) (S := []) (m_c3_2_0 hw hU Ab nc0 nc1  gk) pd_6 rfl rfl rfl (by decide) (Nat.le_of_ble_eq_true rfl) (by decide) (by decide) (fun T h1 v1 L1 X q1 => ?_)
  obtain ⟨t1, rfl, gt1, gn1, At1, Kc1⟩ := q1
  have K1 : Keep h0 h1 [a] := (Keep.refl h0 [a]).trans Kc1 (fun x hx => nomatch hx)
  have sz_t1 : h0.size ≤ t1 := Nat.le_trans (Keep.refl h0 [a]).1 gt1
  show Wp p e below _ (T.setTop (mkF m 39 #[.val (.ref a), .val (.ref b), .val (.int (0 : Int32)), .val (.int (2 : Int32)), .val .null, .unset] [(.ref t1)]))
  refine w_astore X #[.val (.ref a), .val (.ref b), .val (.int (0 : Int32)), .val (.int (2 : Int32)), .val .null, .val (.ref t1)] djdk_42_149_39 (rfl) rfl ?_
  refine w_aloadN X djdk_42_149_41 rfl (rfl) ?_
  refine w_aload X djdk_42_149_42 rfl (rfl) ?_
  refine w_iloadN X djdk_42_149_44 rfl ?_
  refine w_callS X djdk_42_149_45 (wd_28 hw) (wd_29 hw) (wd_22 hw) (wd_30 hw) (by decide) (argsL := [(.ref t1), (.int (2 : Int32))]) (S := [(.ref a)]) (m_cfal16_2 hw At1) pd_7 rfl rfl rfl (by decide) (Nat.le_of_ble_eq_true rfl) (by decide) (by decide) (fun T h2 v2 L2 X q2 => ?_)
  obtain ⟨rfl, rfl⟩ := q2
  show Wp p e below _ (T.setTop (mkF m 48 #[.val (.ref a), .val (.ref b), .val (.int (0 : Int32)), .val (.int (2 : Int32)), .val .null, .val (.ref t1)] [(.int (1 : Int32)), (.ref a)]))
  have f2 := (Ea.keep Kc1)
  have f3 := (Ca.keep Kc1 (List.not_mem_nil))
  refine w_putFN X djdk_42_149_48 (wd_31 hw) Via.refl f3 f2 (Or.inr ⟨(wd_32 hw), rfl, rfl⟩) (wd_6 hw) (ty := .byte) (by decide) (.int (1 : Int32)) rfl (by decide) ga (fun T h3 X W3 => ?_)
  have f4 := f3.same W3
  have K5 : Keep h0 h3 [a] := K1.wr W3 (Or.inl (List.mem_of_getElem? (i := 0) rfl))
  refine w_aloadN X djdk_42_149_51 rfl (rfl) ?_
  refine w_aload X djdk_42_149_52 rfl (rfl) ?_
  have f6 := (f2.wr W3)
  have f7 := ((Va.keep Kc1 (List.not_mem_nil)).other W3 (Or.inr (slot_ne (Or.inr (wd_34 hw)) (Or.inr (wd_32 hw)) (by decide) (t := (.array .byte)) (t' := .byte) (by decide) (by decide))))
  refine w_putF X djdk_42_149_54 (host := "") (Or.inl (wd_33 hw)) Via.refl f7 f6 (Or.inr ⟨(wd_34 hw), rfl, rfl⟩) (wd_6 hw) (ty := (.array .byte)) (by decide) rfl rfl ga (fun T h4 X W4 => ?_)
  have f8 := f7.same W4
  have K9 : Keep h0 h4 [a] := K5.wr W4 (Or.inl (List.mem_of_getElem? (i := 0) rfl))
  have f10 := (f6.wr W4)
  have f11 := (f4.other W4 (Or.inr (slot_ne (Or.inr (wd_32 hw)) (Or.inr (wd_34 hw)) (by decide) (t := .byte) (t' := (.array .byte)) (by decide) (by decide))))
  have f12 := ((At1.other W3 (Ne.symm (Nat.ne_of_lt (Nat.lt_of_lt_of_le Ea.lt gt1)))).other W4 (Ne.symm (Nat.ne_of_lt (Nat.lt_of_lt_of_le Ea.lt gt1))))
  exact w_retV X djdk_42_149_57 ⟨rfl, K9, _, sz_t1, gn1, f10, f8, Or.inr ⟨f11, f12⟩⟩ (by decide) (by decide)
set_option maxRecDepth 65536 in
set_option maxHeartbeats 40000000 in
theorem m_si_2_0 {l : Launch} {Z : State} {a0 : Array Value} {n0 : Nat} (hw : ∀ d ∈ tables_1, d.before a0 Z = true) {h0 : Heap} {zc : Int32} {fm : Value} {a b : Addr} {c0 c1 : Int32} (hU : own_U Z zc fm) (ga : n0 ≤ a) (Ea : Exa Z h0 a "java/lang/String") (Va : Fld Z h0 a "java/lang/String" "value" "[B" .null) (Ca : Fld Z h0 a "java/lang/String" "coder" "B" (.int (0 : Int32))) (Ab : Ary Z h0 b .char [(.int c0), (.int c1)]) (nc0 : nar .char c0 = c0) (nc1 : nar .char c1 = c1)  (gk : (255 : Int32) < c0) :
    Does l Z n0 ⟨"java/lang/String", "<init>", "([C)V"⟩ jdk_42_method_3_code 2 none [] { frames := 5, cells := 2, slots := 6, locals := 74 } #[(.ref a), (.ref b)] h0 (fun v h => v = none ∧ Keep h0 h [a] ∧ ∃ t, h0.size ≤ t ∧ n0 ≤ t ∧ Txt Z h a t [c0, c1]) := by
  refine Does.start (plainFor_of_name pn_4) ?_
  obtain ⟨hS, S_ad, S_hi, S_lo⟩ := id hU
  obtain ⟨S_zc, hzc, S_fm, hfm⟩ := id hS
  intro p e s m below meth c T X
  replace X : Sd Z n0 0 jdk_42_method_3_code 2 "java/lang/String" "<init>" none h0 p l e { frames := 5, cells := 2, slots := 6, locals := 74 } s m #[(.ref a), (.ref b)] below meth c T [] 0 0 := X
  refine Wp.cast (g' := mkF m 0 #[.val (.ref a), .val (.ref b)] []) (by first | (simp [entryFrame, mkF, argsToLocals, Value.category, maxLocals]; done) | rfl) ?_
  refine w_aloadN X djdk_42_3_0 rfl (rfl) ?_
  refine w_aloadN X djdk_42_3_1 rfl (rfl) ?_
  refine w_iconst X (0 : Int32) djdk_42_3_2 rfl ?_
  refine w_aloadN X djdk_42_3_3 rfl (rfl) ?_
  refine w_arrlen X (2 : Int32) djdk_42_3_4 Ab rfl ?_
  refine w_aconstNull X djdk_42_3_5 ?_
  refine w_callI X djdk_42_3_6 rfl (wd_12 hw) (wd_13 hw) (wd_7 hw) (wd_15 hw) (by decide) (argsL := [(.ref b), (.int (0 : Int32)), (.int (2 : Int32)), .null]) (S := []) (m_si4_2_0 hw hU ga Ea Va Ca Ab nc0 nc1  gk) pd_3 rfl rfl rfl (by decide) (Nat.le_of_ble_eq_true rfl) (by decide) (by decide) (fun T h1 v1 L1 X q1 => ?_)
  obtain ⟨rfl, r1⟩ := q1
  show Wp p e below _ (T.setTop (mkF m 9 #[.val (.ref a), .val (.ref b)] []))
  exact w_retV X djdk_42_3_9 ⟨rfl, r1⟩ (by decide) (by decide)
set_option maxRecDepth 65536 in
set_option maxHeartbeats 40000000 in
theorem m_c5_2_1 {l : Launch} {Z : State} {a0 : Array Value} {n0 : Nat} (hw : ∀ d ∈ tables_1, d.before a0 Z = true) {h0 : Heap} {a b : Addr} {c0 c1 : Int32} (Aa : Ary Z h0 a .char [(.int c0), (.int c1)]) (Ab : Ary Z h0 b .byte [(.int (0 : Int32)), (.int (0 : Int32))]) (gb : n0 ≤ b) (nab : a ≠ b) (l0 : ¬ (255 : Int32) < c0) (gk : (255 : Int32) < c1) :
    Does l Z n0 ⟨"java/lang/StringUTF16", "compress", "([CI[BII)I"⟩ jdk_52_method_21_code 7 (some .int) [] { frames := 0, cells := 0, slots := 0, locals := 0 } #[(.ref a), (.int (0 : Int32)), (.ref b), (.int (0 : Int32)), (.int (2 : Int32))] h0 (fun v h => v = some (.int (1 : Int32)) ∧ Keep h0 h [b]) := by
  refine Does.start (plainFor_of_name pn_5) ?_
  intro p e s m below meth c T X
  replace X : Sd Z n0 0 jdk_52_method_21_code 7 "java/lang/StringUTF16" "compress" (some .int) h0 p l e { frames := 0, cells := 0, slots := 0, locals := 0 } s m #[(.ref a), (.int (0 : Int32)), (.ref b), (.int (0 : Int32)), (.int (2 : Int32))] below meth c T [] 0 0 := X
  refine Wp.cast (g' := mkF m 0 #[.val (.ref a), .val (.int (0 : Int32)), .val (.ref b), .val (.int (0 : Int32)), .val (.int (2 : Int32)), .unset, .unset] []) (by first | (simp [entryFrame, mkF, argsToLocals, Value.category, maxLocals]; done) | rfl) ?_
  refine w_iconst X (0 : Int32) djdk_52_21_0 rfl ?_
  refine w_istore X #[.val (.ref a), .val (.int (0 : Int32)), .val (.ref b), .val (.int (0 : Int32)), .val (.int (2 : Int32)), .val (.int (0 : Int32)), .unset] djdk_52_21_1 rfl ?_
  refine w_iload X djdk_52_21_3 rfl ?_
  refine w_iload X djdk_52_21_5 rfl ?_
  refine w_icmpge X djdk_52_21_7 (fun hc => absurd (by decide) hc) (fun _ => ?_)
  refine w_aloadN X djdk_52_21_10 rfl (rfl) ?_
  refine w_iloadN X djdk_52_21_11 rfl ?_
  refine w_caload X djdk_52_21_12 Aa (by decide) rfl ?_
  refine w_istore X #[.val (.ref a), .val (.int (0 : Int32)), .val (.ref b), .val (.int (0 : Int32)), .val (.int (2 : Int32)), .val (.int (0 : Int32)), .val (.int c0)] djdk_52_21_13 rfl ?_
  refine w_iload X djdk_52_21_15 rfl ?_
  refine w_sipush X (255 : Int32) djdk_52_21_17 rfl ?_
  refine w_icmple X djdk_52_21_20 (fun _ => ?_) (fun hc => absurd hc l0)
  refine w_aloadN X djdk_52_21_26 rfl (rfl) ?_
  refine w_iloadN X djdk_52_21_27 rfl ?_
  refine w_iload X djdk_52_21_28 rfl ?_
  refine w_i2b X djdk_52_21_30 ?_
  refine w_bastore X djdk_52_21_31 Ab (by decide) rfl gb (.int (c0.toInt8.toInt32)) (congrArg Value.int (own_nar_b _)) [(.int (c0.toInt8.toInt32)), (.int (0 : Int32))] rfl (fun T h1 X W1 A1 => ?_)
  have K1 : Keep h0 h1 [b] := (Keep.refl h0 [b]).wr W1 (Or.inl (List.mem_of_getElem? (i := 0) rfl))
  refine w_iinc X (1 : Int32) #[.val (.ref a), .val (.int (1 : Int32)), .val (.ref b), .val (.int (0 : Int32)), .val (.int (2 : Int32)), .val (.int (0 : Int32)), .val (.int c0)] djdk_52_21_32 rfl rfl rfl ?_
  refine w_iinc X (1 : Int32) #[.val (.ref a), .val (.int (1 : Int32)), .val (.ref b), .val (.int (1 : Int32)), .val (.int (2 : Int32)), .val (.int (0 : Int32)), .val (.int c0)] djdk_52_21_35 rfl rfl rfl ?_
  refine w_iinc X (1 : Int32) #[.val (.ref a), .val (.int (1 : Int32)), .val (.ref b), .val (.int (1 : Int32)), .val (.int (2 : Int32)), .val (.int (1 : Int32)), .val (.int c0)] djdk_52_21_38 rfl rfl rfl ?_
  refine w_goto X djdk_52_21_41 ?_
  refine w_iload X djdk_52_21_3 rfl ?_
  refine w_iload X djdk_52_21_5 rfl ?_
  refine w_icmpge X djdk_52_21_7 (fun hc => absurd (by decide) hc) (fun _ => ?_)
  refine w_aloadN X djdk_52_21_10 rfl (rfl) ?_
  refine w_iloadN X djdk_52_21_11 rfl ?_
  have f2 := (Aa.other W1 nab)
  refine w_caload X djdk_52_21_12 f2 (by decide) rfl ?_
  refine w_istore X #[.val (.ref a), .val (.int (1 : Int32)), .val (.ref b), .val (.int (1 : Int32)), .val (.int (2 : Int32)), .val (.int (1 : Int32)), .val (.int c1)] djdk_52_21_13 rfl ?_
  refine w_iload X djdk_52_21_15 rfl ?_
  refine w_sipush X (255 : Int32) djdk_52_21_17 rfl ?_
  refine w_icmple X djdk_52_21_20 (fun hc => absurd gk hc) (fun _ => ?_)
  refine w_iload X djdk_52_21_23 rfl ?_
  exact w_retI X djdk_52_21_25 ⟨rfl, K1⟩ (by decide) (by decide)
set_option maxRecDepth 65536 in
set_option maxHeartbeats 40000000 in
theorem m_getc_2_1 {l : Launch} {Z : State} {a0 : Array Value} {n0 : Nat} (hw : ∀ d ∈ tables_1, d.before a0 Z = true) {h0 : Heap} {zc : Int32} {fm : Value} {a : Addr} {r x0 x1 x2 x3 : Int32} (hU : own_U Z zc fm) (Aa : Ary Z h0 a .byte [(.int x0), (.int x1), (.int x2), (.int x3)]) (hr : (((x2 &&& (255 : Int32)) <<< ((0 : Int32) &&& 31)) ||| ((x3 &&& (255 : Int32)) <<< ((8 : Int32) &&& 31))).toUInt32.toUInt16.toUInt32.toInt32 = r) :
    Does l Z n0 ⟨"java/lang/StringUTF16", "getChar", "([BI)C"⟩ jdk_52_method_5_code 2 (some .char) [] { frames := 0, cells := 0, slots := 0, locals := 0 } #[(.ref a), (.int (1 : Int32))] h0 (fun v h => v = some (.int r) ∧ h0 = h) := by
  refine Does.start (plainFor_of_name pn_5) ?_
  obtain ⟨hS, S_ad, S_hi, S_lo⟩ := id hU
  obtain ⟨S_zc, hzc, S_fm, hfm⟩ := id hS
  intro p e s m below meth c T X
  replace X : Sd Z n0 0 jdk_52_method_5_code 2 "java/lang/StringUTF16" "getChar" (some .char) h0 p l e { frames := 0, cells := 0, slots := 0, locals := 0 } s m #[(.ref a), (.int (1 : Int32))] below meth c T [] 0 0 := X
  refine Wp.cast (g' := mkF m 0 #[.val (.ref a), .val (.int (1 : Int32))] []) (by first | (simp [entryFrame, mkF, argsToLocals, Value.category, maxLocals]; done) | rfl) ?_
  refine w_getS X djdk_52_5_0 (host := "") (Or.inl (wd_114 hw)) Via.refl (S_ad.ext X.old.2) (fun T X => ?_)
  refine w_ifne X djdk_52_5_3 (fun _ => ?_) (fun hc => absurd hc (by decide))
  refine w_iloadN X djdk_52_5_28 rfl ?_
  refine w_iconst X (1 : Int32) djdk_52_5_29 rfl ?_
  refine w_ishl X djdk_52_5_30 ?_
  refine w_istoreN X #[.val (.ref a), .val (.int (2 : Int32))] djdk_52_5_31 rfl ?_
  refine w_aloadN X djdk_52_5_32 rfl (rfl) ?_
  refine w_iloadN X djdk_52_5_33 rfl ?_
  refine w_iinc X (1 : Int32) #[.val (.ref a), .val (.int (3 : Int32))] djdk_52_5_34 rfl rfl rfl ?_
  refine w_baload X djdk_52_5_37 Aa (by decide) rfl ?_
  refine w_sipush X (255 : Int32) djdk_52_5_38 rfl ?_
  refine w_iand X djdk_52_5_41 ?_
  refine w_getS X djdk_52_5_42 (host := "") (Or.inl (wd_115 hw)) Via.refl (S_hi.ext X.old.2) (fun T X => ?_)
  refine w_ishl X djdk_52_5_45 ?_
  refine w_aloadN X djdk_52_5_46 rfl (rfl) ?_
  refine w_iloadN X djdk_52_5_47 rfl ?_
  refine w_baload X djdk_52_5_48 Aa (by decide) rfl ?_
  refine w_sipush X (255 : Int32) djdk_52_5_49 rfl ?_
  refine w_iand X djdk_52_5_52 ?_
  refine w_getS X djdk_52_5_53 (host := "") (Or.inl (wd_116 hw)) Via.refl (S_lo.ext X.old.2) (fun T X => ?_)
  refine w_ishl X djdk_52_5_56 ?_
  refine w_ior X djdk_52_5_57 ?_
  refine w_i2c X djdk_52_5_58 ?_
  exact w_ret_char X ((((x2 &&& (255 : Int32)) <<< ((0 : Int32) &&& 31)) ||| ((x3 &&& (255 : Int32)) <<< ((8 : Int32) &&& 31))).toUInt32.toUInt16.toUInt32.toInt32) (own_nar_c _) djdk_52_5_59 ⟨by rw [hr], rfl⟩ (by decide) (by decide)
set_option maxRecDepth 65536 in
set_option maxHeartbeats 40000000 in
theorem m_c3_2_1 {l : Launch} {Z : State} {a0 : Array Value} {n0 : Nat} (hw : ∀ d ∈ tables_1, d.before a0 Z = true) {h0 : Heap} {zc : Int32} {fm : Value} {a : Addr} {c0 c1 : Int32} (hU : own_U Z zc fm) (Aa : Ary Z h0 a .char [(.int c0), (.int c1)]) (nc0 : nar .char c0 = c0) (nc1 : nar .char c1 = c1) (l0 : ¬ (255 : Int32) < c0) (gk : (255 : Int32) < c1) :
    Does l Z n0 ⟨"java/lang/StringUTF16", "compress", "([CII)[B"⟩ jdk_52_method_16_code 6 (some (.array .byte)) [] { frames := 3, cells := 2, slots := 6, locals := 40 } #[(.ref a), (.int (0 : Int32)), (.int (2 : Int32))] h0 (fun v h => ∃ t, v = some (.ref t) ∧ h0.size ≤ t ∧ n0 ≤ t ∧ Ary Z h t .byte [(.int ((c0 >>> ((0 : Int32) &&& 31)).toInt8.toInt32)), (.int ((c0 >>> ((8 : Int32) &&& 31)).toInt8.toInt32)), (.int ((c1 >>> ((0 : Int32) &&& 31)).toInt8.toInt32)), (.int ((c1 >>> ((8 : Int32) &&& 31)).toInt8.toInt32))] ∧ Keep h0 h []) := by
  refine Does.start (plainFor_of_name pn_5) ?_
  obtain ⟨hS, S_ad, S_hi, S_lo⟩ := id hU
  obtain ⟨S_zc, hzc, S_fm, hfm⟩ := id hS
  intro p e s m below meth c T X
  replace X : Sd Z n0 0 jdk_52_method_16_code 6 "java/lang/StringUTF16" "compress" (some (.array .byte)) h0 p l e { frames := 3, cells := 2, slots := 6, locals := 40 } s m #[(.ref a), (.int (0 : Int32)), (.int (2 : Int32))] below meth c T [] 0 0 := X
  refine Wp.cast (g' := mkF m 0 #[.val (.ref a), .val (.int (0 : Int32)), .val (.int (2 : Int32)), .unset, .unset, .unset] []) (by first | (simp [entryFrame, mkF, argsToLocals, Value.category, maxLocals]; done) | rfl) ?_
  refine w_iloadN X djdk_52_16_0 rfl ?_
  refine w_newarr X djdk_52_16_1 (wd_24 hw) 2 2 (by decide) (by decide) (by decide) (by decide) (by decide) (by decide) (fun T h1 b1 g1 gn1 X E1 A1 => ?_)
  replace A1 : Ary Z h1 b1 .byte [(.int (0 : Int32)), (.int (0 : Int32))] := A1
  have sz_b1 : h0.size ≤ b1 := Nat.le_trans (Keep.refl h0 []).1 (Nat.le_of_eq g1.symm)
  have K1 : Keep h0 h1 [] := (Keep.refl h0 []).ext E1
  refine w_astoreN X #[.val (.ref a), .val (.int (0 : Int32)), .val (.int (2 : Int32)), .val (.ref b1), .unset, .unset] djdk_52_16_3 (rfl) rfl ?_
  refine w_aloadN X djdk_52_16_4 rfl (rfl) ?_
  refine w_iloadN X djdk_52_16_5 rfl ?_
  refine w_aloadN X djdk_52_16_6 rfl (rfl) ?_
  refine w_iconst X (0 : Int32) djdk_52_16_7 rfl ?_
  refine w_iloadN X djdk_52_16_8 rfl ?_
  have f2 := (Aa.ext E1)
  refine w_callS X djdk_52_16_9 (wd_25 hw) (wd_26 hw) (wd_22 hw) (wd_27 hw) (by decide) (argsL := [(.ref a), (.int (0 : Int32)), (.ref b1), (.int (0 : Int32)), (.int (2 : Int32))]) (S := []) (m_c5_2_1 hw f2 A1 gn1 (Nat.ne_of_lt (Nat.lt_of_lt_of_le Aa.lt (Nat.le_of_eq g1.symm))) l0 gk) pd_5 rfl rfl rfl (by decide) (Nat.le_of_ble_eq_true rfl) (by decide) (by decide) (fun T h2 v2 L2 X q2 => ?_)
  obtain ⟨rfl, Kc2⟩ := q2
  have K3 : Keep h0 h2 [] := K1.trans Kc2 (fun x hx => by cases List.mem_singleton.mp hx; exact (Or.inr sz_b1))
  show Wp p e below _ (T.setTop (mkF m 12 #[.val (.ref a), .val (.int (0 : Int32)), .val (.int (2 : Int32)), .val (.ref b1), .unset, .unset] [(.int (1 : Int32))]))
  refine w_istore X #[.val (.ref a), .val (.int (0 : Int32)), .val (.int (2 : Int32)), .val (.ref b1), .val (.int (1 : Int32)), .unset] djdk_52_16_12 rfl ?_
  refine w_iload X djdk_52_16_14 rfl ?_
  refine w_iloadN X djdk_52_16_16 rfl ?_
  refine w_icmpeq X djdk_52_16_17 (fun hc => absurd hc (by decide)) (fun _ => ?_)
  refine w_aloadN X djdk_52_16_20 rfl (rfl) ?_
  refine w_iloadN X djdk_52_16_21 rfl ?_
  refine w_iloadN X djdk_52_16_22 rfl ?_
  have f4 := (f2.keep Kc2 (by simp only [List.mem_cons, List.not_mem_nil, or_false]; exact (Nat.ne_of_lt (Nat.lt_of_lt_of_le Aa.lt (Nat.le_of_eq g1.symm)))))
  refine w_callS X djdk_52_16_23 (wd_101 hw) (wd_102 hw) (wd_22 hw) (wd_103 hw) (by decide) (argsL := [(.ref a), (.int (0 : Int32)), (.int (2 : Int32))]) (S := []) (m_tob16_2 hw hU f4) pd_6 rfl rfl rfl (by decide) (Nat.le_of_ble_eq_true rfl) (by decide) (by decide) (fun T h3 v3 L3 X q3 => ?_)
  obtain ⟨t3, rfl, gt3, gn3, At3, Kc3⟩ := q3
  have K5 : Keep h0 h3 [] := K3.trans Kc3 (fun x hx => nomatch hx)
  have sz_t3 : h0.size ≤ t3 := Nat.le_trans K3.1 gt3
  show Wp p e below _ (T.setTop (mkF m 26 #[.val (.ref a), .val (.int (0 : Int32)), .val (.int (2 : Int32)), .val (.ref b1), .val (.int (1 : Int32)), .unset] [(.ref t3)]))
  refine w_astore X #[.val (.ref a), .val (.int (0 : Int32)), .val (.int (2 : Int32)), .val (.ref b1), .val (.int (1 : Int32)), .val (.ref t3)] djdk_52_16_26 (rfl) rfl ?_
  refine w_aload X djdk_52_16_28 rfl (rfl) ?_
  refine w_iload X djdk_52_16_30 rfl ?_
  refine w_callS X djdk_52_16_32 (wd_117 hw) (wd_118 hw) (wd_22 hw) (wd_119 hw) (by decide) (argsL := [(.ref t3), (.int (1 : Int32))]) (S := []) (m_getc_2_1 hw (r := c1) hU At3 (own_utf nc1)) pd_11 rfl rfl rfl (by decide) (Nat.le_of_ble_eq_true rfl) (by decide) (by decide) (fun T h4 v4 L4 X q4 => ?_)
  obtain ⟨rfl, rfl⟩ := q4
  show Wp p e below _ (T.setTop (mkF m 35 #[.val (.ref a), .val (.int (0 : Int32)), .val (.int (2 : Int32)), .val (.ref b1), .val (.int (1 : Int32)), .val (.ref t3)] [(.int c1)]))
  refine w_sipush X (255 : Int32) djdk_52_16_35 rfl ?_
  refine w_icmpgt X djdk_52_16_38 (fun _ => ?_) (fun hc => absurd gk hc)
  refine w_aload X djdk_52_16_54 rfl (rfl) ?_
  exact w_retR X rfl (rfl) rfl djdk_52_16_56 ⟨_, rfl, sz_t3, gn3, At3, K5⟩ (by decide) (by decide)
set_option maxRecDepth 65536 in
set_option maxHeartbeats 40000000 in
theorem m_si4_2_1 {l : Launch} {Z : State} {a0 : Array Value} {n0 : Nat} (hw : ∀ d ∈ tables_1, d.before a0 Z = true) {h0 : Heap} {zc : Int32} {fm : Value} {a b : Addr} {c0 c1 : Int32} (hU : own_U Z zc fm) (ga : n0 ≤ a) (Ea : Exa Z h0 a "java/lang/String") (Va : Fld Z h0 a "java/lang/String" "value" "[B" .null) (Ca : Fld Z h0 a "java/lang/String" "coder" "B" (.int (0 : Int32))) (Ab : Ary Z h0 b .char [(.int c0), (.int c1)]) (nc0 : nar .char c0 = c0) (nc1 : nar .char c1 = c1) (l0 : ¬ (255 : Int32) < c0) (gk : (255 : Int32) < c1) :
    Does l Z n0 ⟨"java/lang/String", "<init>", "([CIILjava/lang/Void;)V"⟩ jdk_42_method_149_code 6 none [] { frames := 4, cells := 2, slots := 6, locals := 57 } #[(.ref a), (.ref b), (.int (0 : Int32)), (.int (2 : Int32)), .null] h0 (fun v h => v = none ∧ Keep h0 h [a] ∧ ∃ t, h0.size ≤ t ∧ n0 ≤ t ∧ Txt Z h a t [c0, c1]) := by
  refine Does.start (plainFor_of_name pn_4) ?_
  obtain ⟨hS, S_ad, S_hi, S_lo⟩ := id hU
  obtain ⟨S_zc, hzc, S_fm, hfm⟩ := id hS
  intro p e s m below meth c T X
  replace X : Sd Z n0 0 jdk_42_method_149_code 6 "java/lang/String" "<init>" none h0 p l e { frames := 4, cells := 2, slots := 6, locals := 57 } s m #[(.ref a), (.ref b), (.int (0 : Int32)), (.int (2 : Int32)), .null] below meth c T [] 0 0 := X
  refine Wp.cast (g' := mkF m 0 #[.val (.ref a), .val (.ref b), .val (.int (0 : Int32)), .val (.int (2 : Int32)), .val .null, .unset] []) (by first | (simp [entryFrame, mkF, argsToLocals, Value.category, maxLocals]; done) | rfl) ?_
  refine w_aloadN X djdk_42_149_0 rfl (rfl) ?_
  refine w_initO X djdk_42_149_1 (wd_16 hw) (wd_17 hw) (wd_18 hw) rfl (by decide) (Nat.le_of_ble_eq_true rfl) (fun T X => ?_)
  refine w_iloadN X djdk_42_149_4 rfl ?_
  refine w_ifne X djdk_42_149_5 (fun _ => ?_) (fun hc => absurd hc (by decide))
  refine w_getS X djdk_42_149_27 (host := "") (Or.inl (wd_19 hw)) Via.refl (S_zc.ext X.old.2) (fun T X => ?_)
  refine w_ifeq X djdk_42_149_30 (fun hc => absurd hc hzc) (fun _ => ?_)
  refine w_aloadN X djdk_42_149_33 rfl (rfl) ?_
  refine w_iloadN X djdk_42_149_34 rfl ?_
  refine w_iloadN X djdk_42_149_35 rfl ?_
  refine w_callS X djdk_42_149_36 (wd_20 hw) (wd_21 hw) (wd_22 hw) (wd_23 hw) (by decide) (argsL := [(.ref b), (.int (0 : Int32)), (.int (2 : Int32))]) (S := []) (m_c3_2_1 hw hU Ab nc0 nc1 l0 gk) pd_6 rfl rfl rfl (by decide) (Nat.le_of_ble_eq_true rfl) (by decide) (by decide) (fun T h1 v1 L1 X q1 => ?_)
  obtain ⟨t1, rfl, gt1, gn1, At1, Kc1⟩ := q1
  have K1 : Keep h0 h1 [a] := (Keep.refl h0 [a]).trans Kc1 (fun x hx => nomatch hx)
  have sz_t1 : h0.size ≤ t1 := Nat.le_trans (Keep.refl h0 [a]).1 gt1
  show Wp p e below _ (T.setTop (mkF m 39 #[.val (.ref a), .val (.ref b), .val (.int (0 : Int32)), .val (.int (2 : Int32)), .val .null, .unset] [(.ref t1)]))
  refine w_astore X #[.val (.ref a), .val (.ref b), .val (.int (0 : Int32)), .val (.int (2 : Int32)), .val .null, .val (.ref t1)] djdk_42_149_39 (rfl) rfl ?_
  refine w_aloadN X djdk_42_149_41 rfl (rfl) ?_
  refine w_aload X djdk_42_149_42 rfl (rfl) ?_
  refine w_iloadN X djdk_42_149_44 rfl ?_
  refine w_callS X djdk_42_149_45 (wd_28 hw) (wd_29 hw) (wd_22 hw) (wd_30 hw) (by decide) (argsL := [(.ref t1), (.int (2 : Int32))]) (S := [(.ref a)]) (m_cfal16_2 hw At1) pd_7 rfl rfl rfl (by decide) (Nat.le_of_ble_eq_true rfl) (by decide) (by decide) (fun T h2 v2 L2 X q2 => ?_)
  obtain ⟨rfl, rfl⟩ := q2
  show Wp p e below _ (T.setTop (mkF m 48 #[.val (.ref a), .val (.ref b), .val (.int (0 : Int32)), .val (.int (2 : Int32)), .val .null, .val (.ref t1)] [(.int (1 : Int32)), (.ref a)]))
  have f2 := (Ea.keep Kc1)
  have f3 := (Ca.keep Kc1 (List.not_mem_nil))
  refine w_putFN X djdk_42_149_48 (wd_31 hw) Via.refl f3 f2 (Or.inr ⟨(wd_32 hw), rfl, rfl⟩) (wd_6 hw) (ty := .byte) (by decide) (.int (1 : Int32)) rfl (by decide) ga (fun T h3 X W3 => ?_)
  have f4 := f3.same W3
  have K5 : Keep h0 h3 [a] := K1.wr W3 (Or.inl (List.mem_of_getElem? (i := 0) rfl))
  refine w_aloadN X djdk_42_149_51 rfl (rfl) ?_
  refine w_aload X djdk_42_149_52 rfl (rfl) ?_
  have f6 := (f2.wr W3)
  have f7 := ((Va.keep Kc1 (List.not_mem_nil)).other W3 (Or.inr (slot_ne (Or.inr (wd_34 hw)) (Or.inr (wd_32 hw)) (by decide) (t := (.array .byte)) (t' := .byte) (by decide) (by decide))))
  refine w_putF X djdk_42_149_54 (host := "") (Or.inl (wd_33 hw)) Via.refl f7 f6 (Or.inr ⟨(wd_34 hw), rfl, rfl⟩) (wd_6 hw) (ty := (.array .byte)) (by decide) rfl rfl ga (fun T h4 X W4 => ?_)
  have f8 := f7.same W4
  have K9 : Keep h0 h4 [a] := K5.wr W4 (Or.inl (List.mem_of_getElem? (i := 0) rfl))
  have f10 := (f6.wr W4)
  have f11 := (f4.other W4 (Or.inr (slot_ne (Or.inr (wd_32 hw)) (Or.inr (wd_34 hw)) (by decide) (t := .byte) (t' := (.array .byte)) (by decide) (by decide))))
  have f12 := ((At1.other W3 (Ne.symm (Nat.ne_of_lt (Nat.lt_of_lt_of_le Ea.lt gt1)))).other W4 (Ne.symm (Nat.ne_of_lt (Nat.lt_of_lt_of_le Ea.lt gt1))))
  exact w_retV X djdk_42_149_57 ⟨rfl, K9, _, sz_t1, gn1, f10, f8, Or.inr ⟨f11, f12⟩⟩ (by decide) (by decide)
set_option maxRecDepth 65536 in
set_option maxHeartbeats 40000000 in
theorem m_si_2_1 {l : Launch} {Z : State} {a0 : Array Value} {n0 : Nat} (hw : ∀ d ∈ tables_1, d.before a0 Z = true) {h0 : Heap} {zc : Int32} {fm : Value} {a b : Addr} {c0 c1 : Int32} (hU : own_U Z zc fm) (ga : n0 ≤ a) (Ea : Exa Z h0 a "java/lang/String") (Va : Fld Z h0 a "java/lang/String" "value" "[B" .null) (Ca : Fld Z h0 a "java/lang/String" "coder" "B" (.int (0 : Int32))) (Ab : Ary Z h0 b .char [(.int c0), (.int c1)]) (nc0 : nar .char c0 = c0) (nc1 : nar .char c1 = c1) (l0 : ¬ (255 : Int32) < c0) (gk : (255 : Int32) < c1) :
    Does l Z n0 ⟨"java/lang/String", "<init>", "([C)V"⟩ jdk_42_method_3_code 2 none [] { frames := 5, cells := 2, slots := 6, locals := 74 } #[(.ref a), (.ref b)] h0 (fun v h => v = none ∧ Keep h0 h [a] ∧ ∃ t, h0.size ≤ t ∧ n0 ≤ t ∧ Txt Z h a t [c0, c1]) := by
  refine Does.start (plainFor_of_name pn_4) ?_
  obtain ⟨hS, S_ad, S_hi, S_lo⟩ := id hU
  obtain ⟨S_zc, hzc, S_fm, hfm⟩ := id hS
  intro p e s m below meth c T X
  replace X : Sd Z n0 0 jdk_42_method_3_code 2 "java/lang/String" "<init>" none h0 p l e { frames := 5, cells := 2, slots := 6, locals := 74 } s m #[(.ref a), (.ref b)] below meth c T [] 0 0 := X
  refine Wp.cast (g' := mkF m 0 #[.val (.ref a), .val (.ref b)] []) (by first | (simp [entryFrame, mkF, argsToLocals, Value.category, maxLocals]; done) | rfl) ?_
  refine w_aloadN X djdk_42_3_0 rfl (rfl) ?_
  refine w_aloadN X djdk_42_3_1 rfl (rfl) ?_
  refine w_iconst X (0 : Int32) djdk_42_3_2 rfl ?_
  refine w_aloadN X djdk_42_3_3 rfl (rfl) ?_
  refine w_arrlen X (2 : Int32) djdk_42_3_4 Ab rfl ?_
  refine w_aconstNull X djdk_42_3_5 ?_
  refine w_callI X djdk_42_3_6 rfl (wd_12 hw) (wd_13 hw) (wd_7 hw) (wd_15 hw) (by decide) (argsL := [(.ref b), (.int (0 : Int32)), (.int (2 : Int32)), .null]) (S := []) (m_si4_2_1 hw hU ga Ea Va Ca Ab nc0 nc1 l0 gk) pd_3 rfl rfl rfl (by decide) (Nat.le_of_ble_eq_true rfl) (by decide) (by decide) (fun T h1 v1 L1 X q1 => ?_)
  obtain ⟨rfl, r1⟩ := q1
  show Wp p e below _ (T.setTop (mkF m 9 #[.val (.ref a), .val (.ref b)] []))
  exact w_retV X djdk_42_3_9 ⟨rfl, r1⟩ (by decide) (by decide)
theorem m_tsi_2 {l : Launch} {Z : State} {a0 : Array Value} {n0 : Nat} (hw : ∀ d ∈ tables_1, d.before a0 Z = true) {h0 : Heap} {zc : Int32} {fm : Value} {a b : Addr} {c0 c1 : Int32} (hU : own_U Z zc fm) (ga : n0 ≤ a) (Ea : Exa Z h0 a "java/lang/String") (Va : Fld Z h0 a "java/lang/String" "value" "[B" .null) (Ca : Fld Z h0 a "java/lang/String" "coder" "B" (.int (0 : Int32))) (Ab : Ary Z h0 b .char [(.int c0), (.int c1)]) (nc0 : nar .char c0 = c0) (nc1 : nar .char c1 = c1) :
    Does l Z n0 ⟨"java/lang/String", "<init>", "([C)V"⟩ jdk_42_method_3_code 2 none [] { frames := 5, cells := 2, slots := 6, locals := 74 } #[.ref a, .ref b] h0 (fun v h => v = none ∧ Keep h0 h [a] ∧ ∃ t, h0.size ≤ t ∧ n0 ≤ t ∧ Txt Z h a t [c0, c1]) := by
  by_cases l0 : (255 : Int32) < c0
  · exact m_si_2_0 hw hU ga Ea Va Ca Ab nc0 nc1  l0
  by_cases l1 : (255 : Int32) < c1
  · exact m_si_2_1 hw hU ga Ea Va Ca Ab nc0 nc1 l0 l1
  refine (m_si_2 hw hU.1 ga Ea Va Ca Ab l0 l1).mono fun v h q => ?_
  obtain ⟨q1, q2, q3, q4, t, q5, q6, q7, q8⟩ := q
  refine ⟨q1, q4, t, q5, q6, q2, q7, Or.inl ⟨q3, q8, fun c hc => ?_⟩⟩
  simp only [List.mem_cons, List.not_mem_nil, or_false] at hc
  rcases hc with rfl | rfl <;> assumption
set_option maxRecDepth 65536 in
set_option maxHeartbeats 40000000 in
theorem m_str_2 {l : Launch} {Z : State} {a0 : Array Value} {n0 : Nat} (hw : ∀ d ∈ tables_1, d.before a0 Z = true) {h0 : Heap} {zc : Int32} {fm : Value} {x c0 c1 c2 : Int32} (hU : own_U Z zc fm) (hheld : Jvm.Lit.constHeld Z "java/lang/String" 7) (hcw : Jvm.Lit.compactW.before a0 Z = true) (hx : x = (2 : Int32)) (nc0 : nar .char c0 = c0) (nc1 : nar .char c1 = c1) (nc2 : nar .char c2 = c2) :
    DoesG l Z n0 (Em Z h0) ⟨"com/example/whole_session/wholesession/RunCompareUtf8PinLaw", "str", "(ICCC)Ljava/lang/String;"⟩ method_3_code 4 (some (.object "java/lang/String")) [] { frames := 6, cells := 4, slots := 12, locals := 88 } #[(.int x), (.int c0), (.int c1), (.int c2)] h0 (fun v h vm => ∃ a t, v = some (.ref a) ∧ Txt Z h a t [c0, c1] ∧ Keep h0 h [] ∧ Em Z h vm) := by
  refine DoesG.start (plainFor_of_name pn_1) ?_
  obtain ⟨hS, S_ad, S_hi, S_lo⟩ := id hU
  obtain ⟨S_zc, hzc, S_fm, hfm⟩ := id hS
  intro p e s m below meth c T X Y hs0 Gs
  replace X : Sd Z n0 0 method_3_code 4 "com/example/whole_session/wholesession/RunCompareUtf8PinLaw" "str" (some (.object "java/lang/String")) h0 p l e { frames := 6, cells := 4, slots := 12, locals := 88 } (s.setVm s.vm) m #[(.int x), (.int c0), (.int c1), (.int c2)] below meth c T [] 0 0 := X
  refine Wp.cast (g' := mkF m 0 #[.val (.int x), .val (.int c0), .val (.int c1), .val (.int c2)] []) (by first | (simp [entryFrame, mkF, argsToLocals, Value.category, maxLocals]; done) | rfl) ?_
  refine w_iloadN X d3_0 rfl ?_
  refine w_ifne X d3_1 (fun _ => ?_) (fun hc => absurd hc (by rw [hx]; decide))
  refine w_iloadN X d3_15 rfl ?_
  refine w_iconst X (1 : Int32) d3_16 rfl ?_
  refine w_icmpne X d3_17 (fun _ => ?_) (fun hc => absurd hc (by rw [hx]; decide))
  refine w_iloadN X d3_35 rfl ?_
  refine w_iconst X (2 : Int32) d3_36 rfl ?_
  refine w_icmpne X d3_37 (fun hc => absurd hx hc) (fun _ => ?_)
  refine w_new X d3_40 (wd_5 hw) (wd_6 hw) (wd_7 hw) (by decide) (by decide) (fun T h1 b1 g1 gn1 X E1 A1 D1 => ?_)
  have sz_b1 : h0.size ≤ b1 := Nat.le_trans (Keep.refl h0 []).1 (Nat.le_of_eq g1.symm)
  have K1 : Keep h0 h1 [] := (Keep.refl h0 []).ext E1
  refine w_dup X d3_43 rfl ?_
  refine w_iconst X (2 : Int32) d3_44 rfl ?_
  refine w_newarr X d3_45 (wd_8 hw) 2 2 (by decide) (by decide) (by decide) (by decide) (by decide) (by decide) (fun T h2 b2 g2 gn2 X E2 A2 => ?_)
  replace A2 : Ary Z h2 b2 .char [(.int (0 : Int32)), (.int (0 : Int32))] := A2
  have sz_b2 : h0.size ≤ b2 := Nat.le_trans K1.1 (Nat.le_of_eq g2.symm)
  have K2 : Keep h0 h2 [] := K1.ext E2
  refine w_dup X d3_47 rfl ?_
  refine w_iconst X (0 : Int32) d3_48 rfl ?_
  refine w_iloadN X d3_49 rfl ?_
  refine w_castore X d3_50 A2 (by decide) rfl gn2 (.int c0) (congrArg Value.int nc0) [(.int c0), (.int (0 : Int32))] rfl (fun T h3 X W3 A3 => ?_)
  have K3 : Keep h0 h3 [] := K2.wr W3 (Or.inr sz_b2)
  refine w_dup X d3_51 rfl ?_
  refine w_iconst X (1 : Int32) d3_52 rfl ?_
  refine w_iloadN X d3_53 rfl ?_
  refine w_castore X d3_54 A3 (by decide) rfl gn2 (.int c1) (congrArg Value.int nc1) [(.int c0), (.int c1)] rfl (fun T h4 X W4 A4 => ?_)
  have K4 : Keep h0 h4 [] := K3.wr W4 (Or.inr sz_b2)
  have f5 := (((A1.ext E2).wr W3).wr W4)
  have f6 := ((((show Fld Z h1 b1 "java/lang/String" "value" "[B" .null from D1 (Or.inr (wd_34 hw)) (ty := (.array .byte)) (by decide)).ext E2).other W3 (Or.inl (Nat.ne_of_lt (Nat.lt_of_lt_of_le A1.lt (Nat.le_of_eq g2.symm))))).other W4 (Or.inl (Nat.ne_of_lt (Nat.lt_of_lt_of_le A1.lt (Nat.le_of_eq g2.symm)))))
  have f7 := ((((show Fld Z h1 b1 "java/lang/String" "coder" "B" (.int (0 : Int32)) from D1 (Or.inr (wd_32 hw)) (ty := .byte) (by decide)).ext E2).other W3 (Or.inl (Nat.ne_of_lt (Nat.lt_of_lt_of_le A1.lt (Nat.le_of_eq g2.symm))))).other W4 (Or.inl (Nat.ne_of_lt (Nat.lt_of_lt_of_le A1.lt (Nat.le_of_eq g2.symm)))))
  refine w_callI X d3_55 rfl (wd_9 hw) (wd_10 hw) (wd_7 hw) (wd_11 hw) (by decide) (argsL := [(.ref b2)]) (S := [(.ref b1)]) (m_tsi_2 hw hU gn1 f5 f6 f7 A4 nc0 nc1) pd_4 rfl rfl rfl (by decide) (Nat.le_of_ble_eq_true rfl) (by decide) (by decide) (fun T h5 v5 L5 X q5 => ?_)
  obtain ⟨rfl, Kc5, t5, gt5, gn5, Tx5⟩ := q5
  have K8 : Keep h0 h5 [] := K4.trans Kc5 (fun x hx => by cases List.mem_singleton.mp hx; exact (Or.inr sz_b1))
  have sz_t5 : h0.size ≤ t5 := Nat.le_trans K4.1 gt5
  show Wp p e below _ (T.setTop (mkF m 58 #[.val (.int x), .val (.int c0), .val (.int c1), .val (.int c2)] [(.ref b1)]))
  exact g_retR X Y rfl (rfl) rfl d3_58 (fun vm' hW => ⟨_, _, rfl, Tx5, K8, (Gs.warm hW).keep K8⟩) (by decide) (by decide)
set_option maxRecDepth 65536 in
set_option maxHeartbeats 40000000 in
theorem m_c5_3 {l : Launch} {Z : State} {a0 : Array Value} {n0 : Nat} (hw : ∀ d ∈ tables_1, d.before a0 Z = true) {h0 : Heap} {a b : Addr} {c0 c1 c2 : Int32} (Aa : Ary Z h0 a .char [(.int c0), (.int c1), (.int c2)]) (Ab : Ary Z h0 b .byte [(.int (0 : Int32)), (.int (0 : Int32)), (.int (0 : Int32))]) (gb : n0 ≤ b) (nab : a ≠ b) (l0 : ¬ (255 : Int32) < c0) (l1 : ¬ (255 : Int32) < c1) (l2 : ¬ (255 : Int32) < c2) :
    Does l Z n0 ⟨"java/lang/StringUTF16", "compress", "([CI[BII)I"⟩ jdk_52_method_21_code 7 (some .int) [] { frames := 0, cells := 0, slots := 0, locals := 0 } #[(.ref a), (.int (0 : Int32)), (.ref b), (.int (0 : Int32)), (.int (3 : Int32))] h0 (fun v h => v = some (.int (3 : Int32)) ∧ Ary Z h b .byte [(.int (c0.toInt8.toInt32)), (.int (c1.toInt8.toInt32)), (.int (c2.toInt8.toInt32))] ∧ Keep h0 h [b]) := by
  refine Does.start (plainFor_of_name pn_5) ?_
  intro p e s m below meth c T X
  replace X : Sd Z n0 0 jdk_52_method_21_code 7 "java/lang/StringUTF16" "compress" (some .int) h0 p l e { frames := 0, cells := 0, slots := 0, locals := 0 } s m #[(.ref a), (.int (0 : Int32)), (.ref b), (.int (0 : Int32)), (.int (3 : Int32))] below meth c T [] 0 0 := X
  refine Wp.cast (g' := mkF m 0 #[.val (.ref a), .val (.int (0 : Int32)), .val (.ref b), .val (.int (0 : Int32)), .val (.int (3 : Int32)), .unset, .unset] []) (by first | (simp [entryFrame, mkF, argsToLocals, Value.category, maxLocals]; done) | rfl) ?_
  refine w_iconst X (0 : Int32) djdk_52_21_0 rfl ?_
  refine w_istore X #[.val (.ref a), .val (.int (0 : Int32)), .val (.ref b), .val (.int (0 : Int32)), .val (.int (3 : Int32)), .val (.int (0 : Int32)), .unset] djdk_52_21_1 rfl ?_
  refine w_iload X djdk_52_21_3 rfl ?_
  refine w_iload X djdk_52_21_5 rfl ?_
  refine w_icmpge X djdk_52_21_7 (fun hc => absurd (by decide) hc) (fun _ => ?_)
  refine w_aloadN X djdk_52_21_10 rfl (rfl) ?_
  refine w_iloadN X djdk_52_21_11 rfl ?_
  refine w_caload X djdk_52_21_12 Aa (by decide) rfl ?_
  refine w_istore X #[.val (.ref a), .val (.int (0 : Int32)), .val (.ref b), .val (.int (0 : Int32)), .val (.int (3 : Int32)), .val (.int (0 : Int32)), .val (.int c0)] djdk_52_21_13 rfl ?_
  refine w_iload X djdk_52_21_15 rfl ?_
  refine w_sipush X (255 : Int32) djdk_52_21_17 rfl ?_
  refine w_icmple X djdk_52_21_20 (fun _ => ?_) (fun hc => absurd hc l0)
  refine w_aloadN X djdk_52_21_26 rfl (rfl) ?_
  refine w_iloadN X djdk_52_21_27 rfl ?_
  refine w_iload X djdk_52_21_28 rfl ?_
  refine w_i2b X djdk_52_21_30 ?_
  refine w_bastore X djdk_52_21_31 Ab (by decide) rfl gb (.int (c0.toInt8.toInt32)) (congrArg Value.int (own_nar_b _)) [(.int (c0.toInt8.toInt32)), (.int (0 : Int32)), (.int (0 : Int32))] rfl (fun T h1 X W1 A1 => ?_)
  have K1 : Keep h0 h1 [b] := (Keep.refl h0 [b]).wr W1 (Or.inl (List.mem_of_getElem? (i := 0) rfl))
  refine w_iinc X (1 : Int32) #[.val (.ref a), .val (.int (1 : Int32)), .val (.ref b), .val (.int (0 : Int32)), .val (.int (3 : Int32)), .val (.int (0 : Int32)), .val (.int c0)] djdk_52_21_32 rfl rfl rfl ?_
  refine w_iinc X (1 : Int32) #[.val (.ref a), .val (.int (1 : Int32)), .val (.ref b), .val (.int (1 : Int32)), .val (.int (3 : Int32)), .val (.int (0 : Int32)), .val (.int c0)] djdk_52_21_35 rfl rfl rfl ?_
  refine w_iinc X (1 : Int32) #[.val (.ref a), .val (.int (1 : Int32)), .val (.ref b), .val (.int (1 : Int32)), .val (.int (3 : Int32)), .val (.int (1 : Int32)), .val (.int c0)] djdk_52_21_38 rfl rfl rfl ?_
  refine w_goto X djdk_52_21_41 ?_
  refine w_iload X djdk_52_21_3 rfl ?_
  refine w_iload X djdk_52_21_5 rfl ?_
  refine w_icmpge X djdk_52_21_7 (fun hc => absurd (by decide) hc) (fun _ => ?_)
  refine w_aloadN X djdk_52_21_10 rfl (rfl) ?_
  refine w_iloadN X djdk_52_21_11 rfl ?_
  have f2 := (Aa.other W1 nab)
  refine w_caload X djdk_52_21_12 f2 (by decide) rfl ?_
  refine w_istore X #[.val (.ref a), .val (.int (1 : Int32)), .val (.ref b), .val (.int (1 : Int32)), .val (.int (3 : Int32)), .val (.int (1 : Int32)), .val (.int c1)] djdk_52_21_13 rfl ?_
  refine w_iload X djdk_52_21_15 rfl ?_
  refine w_sipush X (255 : Int32) djdk_52_21_17 rfl ?_
  refine w_icmple X djdk_52_21_20 (fun _ => ?_) (fun hc => absurd hc l1)
  refine w_aloadN X djdk_52_21_26 rfl (rfl) ?_
  refine w_iloadN X djdk_52_21_27 rfl ?_
  refine w_iload X djdk_52_21_28 rfl ?_
  refine w_i2b X djdk_52_21_30 ?_
  refine w_bastore X djdk_52_21_31 A1 (by decide) rfl gb (.int (c1.toInt8.toInt32)) (congrArg Value.int (own_nar_b _)) [(.int (c0.toInt8.toInt32)), (.int (c1.toInt8.toInt32)), (.int (0 : Int32))] rfl (fun T h2 X W2 A2 => ?_)
  have K3 : Keep h0 h2 [b] := K1.wr W2 (Or.inl (List.mem_of_getElem? (i := 0) rfl))
  refine w_iinc X (1 : Int32) #[.val (.ref a), .val (.int (2 : Int32)), .val (.ref b), .val (.int (1 : Int32)), .val (.int (3 : Int32)), .val (.int (1 : Int32)), .val (.int c1)] djdk_52_21_32 rfl rfl rfl ?_
  refine w_iinc X (1 : Int32) #[.val (.ref a), .val (.int (2 : Int32)), .val (.ref b), .val (.int (2 : Int32)), .val (.int (3 : Int32)), .val (.int (1 : Int32)), .val (.int c1)] djdk_52_21_35 rfl rfl rfl ?_
  refine w_iinc X (1 : Int32) #[.val (.ref a), .val (.int (2 : Int32)), .val (.ref b), .val (.int (2 : Int32)), .val (.int (3 : Int32)), .val (.int (2 : Int32)), .val (.int c1)] djdk_52_21_38 rfl rfl rfl ?_
  refine w_goto X djdk_52_21_41 ?_
  refine w_iload X djdk_52_21_3 rfl ?_
  refine w_iload X djdk_52_21_5 rfl ?_
  refine w_icmpge X djdk_52_21_7 (fun hc => absurd (by decide) hc) (fun _ => ?_)
  refine w_aloadN X djdk_52_21_10 rfl (rfl) ?_
  refine w_iloadN X djdk_52_21_11 rfl ?_
  have f4 := (f2.other W2 nab)
  refine w_caload X djdk_52_21_12 f4 (by decide) rfl ?_
  refine w_istore X #[.val (.ref a), .val (.int (2 : Int32)), .val (.ref b), .val (.int (2 : Int32)), .val (.int (3 : Int32)), .val (.int (2 : Int32)), .val (.int c2)] djdk_52_21_13 rfl ?_
  refine w_iload X djdk_52_21_15 rfl ?_
  refine w_sipush X (255 : Int32) djdk_52_21_17 rfl ?_
  refine w_icmple X djdk_52_21_20 (fun _ => ?_) (fun hc => absurd hc l2)
  refine w_aloadN X djdk_52_21_26 rfl (rfl) ?_
  refine w_iloadN X djdk_52_21_27 rfl ?_
  refine w_iload X djdk_52_21_28 rfl ?_
  refine w_i2b X djdk_52_21_30 ?_
  refine w_bastore X djdk_52_21_31 A2 (by decide) rfl gb (.int (c2.toInt8.toInt32)) (congrArg Value.int (own_nar_b _)) [(.int (c0.toInt8.toInt32)), (.int (c1.toInt8.toInt32)), (.int (c2.toInt8.toInt32))] rfl (fun T h3 X W3 A3 => ?_)
  have K5 : Keep h0 h3 [b] := K3.wr W3 (Or.inl (List.mem_of_getElem? (i := 0) rfl))
  refine w_iinc X (1 : Int32) #[.val (.ref a), .val (.int (3 : Int32)), .val (.ref b), .val (.int (2 : Int32)), .val (.int (3 : Int32)), .val (.int (2 : Int32)), .val (.int c2)] djdk_52_21_32 rfl rfl rfl ?_
  refine w_iinc X (1 : Int32) #[.val (.ref a), .val (.int (3 : Int32)), .val (.ref b), .val (.int (3 : Int32)), .val (.int (3 : Int32)), .val (.int (2 : Int32)), .val (.int c2)] djdk_52_21_35 rfl rfl rfl ?_
  refine w_iinc X (1 : Int32) #[.val (.ref a), .val (.int (3 : Int32)), .val (.ref b), .val (.int (3 : Int32)), .val (.int (3 : Int32)), .val (.int (3 : Int32)), .val (.int c2)] djdk_52_21_38 rfl rfl rfl ?_
  refine w_goto X djdk_52_21_41 ?_
  refine w_iload X djdk_52_21_3 rfl ?_
  refine w_iload X djdk_52_21_5 rfl ?_
  refine w_icmpge X djdk_52_21_7 (fun _ => ?_) (fun hc => absurd hc Int32.lt_irrefl)
  refine w_iload X djdk_52_21_44 rfl ?_
  exact w_retI X djdk_52_21_46 ⟨rfl, A3, K5⟩ (by decide) (by decide)
set_option maxRecDepth 65536 in
set_option maxHeartbeats 40000000 in
theorem m_c3_3 {l : Launch} {Z : State} {a0 : Array Value} {n0 : Nat} (hw : ∀ d ∈ tables_1, d.before a0 Z = true) {h0 : Heap} {a : Addr} {c0 c1 c2 : Int32} (Aa : Ary Z h0 a .char [(.int c0), (.int c1), (.int c2)]) (l0 : ¬ (255 : Int32) < c0) (l1 : ¬ (255 : Int32) < c1) (l2 : ¬ (255 : Int32) < c2) :
    Does l Z n0 ⟨"java/lang/StringUTF16", "compress", "([CII)[B"⟩ jdk_52_method_16_code 6 (some (.array .byte)) [] { frames := 1, cells := 1, slots := 3, locals := 18 } #[(.ref a), (.int (0 : Int32)), (.int (3 : Int32))] h0 (fun v h => ∃ t, v = some (.ref t) ∧ h0.size ≤ t ∧ n0 ≤ t ∧ Ary Z h t .byte [(.int (c0.toInt8.toInt32)), (.int (c1.toInt8.toInt32)), (.int (c2.toInt8.toInt32))] ∧ Keep h0 h []) := by
  refine Does.start (plainFor_of_name pn_5) ?_
  intro p e s m below meth c T X
  replace X : Sd Z n0 0 jdk_52_method_16_code 6 "java/lang/StringUTF16" "compress" (some (.array .byte)) h0 p l e { frames := 1, cells := 1, slots := 3, locals := 18 } s m #[(.ref a), (.int (0 : Int32)), (.int (3 : Int32))] below meth c T [] 0 0 := X
  refine Wp.cast (g' := mkF m 0 #[.val (.ref a), .val (.int (0 : Int32)), .val (.int (3 : Int32)), .unset, .unset, .unset] []) (by first | (simp [entryFrame, mkF, argsToLocals, Value.category, maxLocals]; done) | rfl) ?_
  refine w_iloadN X djdk_52_16_0 rfl ?_
  refine w_newarr X djdk_52_16_1 (wd_24 hw) 3 3 (by decide) (by decide) (by decide) (by decide) (by decide) (by decide) (fun T h1 b1 g1 gn1 X E1 A1 => ?_)
  replace A1 : Ary Z h1 b1 .byte [(.int (0 : Int32)), (.int (0 : Int32)), (.int (0 : Int32))] := A1
  have sz_b1 : h0.size ≤ b1 := Nat.le_trans (Keep.refl h0 []).1 (Nat.le_of_eq g1.symm)
  have K1 : Keep h0 h1 [] := (Keep.refl h0 []).ext E1
  refine w_astoreN X #[.val (.ref a), .val (.int (0 : Int32)), .val (.int (3 : Int32)), .val (.ref b1), .unset, .unset] djdk_52_16_3 (rfl) rfl ?_
  refine w_aloadN X djdk_52_16_4 rfl (rfl) ?_
  refine w_iloadN X djdk_52_16_5 rfl ?_
  refine w_aloadN X djdk_52_16_6 rfl (rfl) ?_
  refine w_iconst X (0 : Int32) djdk_52_16_7 rfl ?_
  refine w_iloadN X djdk_52_16_8 rfl ?_
  have f2 := (Aa.ext E1)
  refine w_callS X djdk_52_16_9 (wd_25 hw) (wd_26 hw) (wd_22 hw) (wd_27 hw) (by decide) (argsL := [(.ref a), (.int (0 : Int32)), (.ref b1), (.int (0 : Int32)), (.int (3 : Int32))]) (S := []) (m_c5_3 hw f2 A1 gn1 (Nat.ne_of_lt (Nat.lt_of_lt_of_le Aa.lt (Nat.le_of_eq g1.symm))) l0 l1 l2) pd_5 rfl rfl rfl (by decide) (Nat.le_of_ble_eq_true rfl) (by decide) (by decide) (fun T h2 v2 L2 X q2 => ?_)
  obtain ⟨rfl, Ac2, Kc2⟩ := q2
  have K3 : Keep h0 h2 [] := K1.trans Kc2 (fun x hx => by cases List.mem_singleton.mp hx; exact (Or.inr sz_b1))
  show Wp p e below _ (T.setTop (mkF m 12 #[.val (.ref a), .val (.int (0 : Int32)), .val (.int (3 : Int32)), .val (.ref b1), .unset, .unset] [(.int (3 : Int32))]))
  refine w_istore X #[.val (.ref a), .val (.int (0 : Int32)), .val (.int (3 : Int32)), .val (.ref b1), .val (.int (3 : Int32)), .unset] djdk_52_16_12 rfl ?_
  refine w_iload X djdk_52_16_14 rfl ?_
  refine w_iloadN X djdk_52_16_16 rfl ?_
  refine w_icmpeq X djdk_52_16_17 (fun _ => ?_) (fun hc => absurd rfl hc)
  refine w_aloadN X djdk_52_16_57 rfl (rfl) ?_
  exact w_retR X rfl (rfl) rfl djdk_52_16_58 ⟨_, rfl, sz_b1, gn1, Ac2, K3⟩ (by decide) (by decide)
set_option maxRecDepth 65536 in
set_option maxHeartbeats 40000000 in
theorem m_cfal_3 {l : Launch} {Z : State} {a0 : Array Value} {n0 : Nat} (hw : ∀ d ∈ tables_1, d.before a0 Z = true) {h0 : Heap} {a : Addr} {v0 v1 v2 : Value} (Aa : Ary Z h0 a .byte [v0, v1, v2]) :
    Does l Z n0 ⟨"java/lang/StringUTF16", "coderFromArrayLen", "([BI)B"⟩ jdk_52_method_15_code 2 (some .byte) [] { frames := 0, cells := 0, slots := 0, locals := 0 } #[(.ref a), (.int (3 : Int32))] h0 (fun v h => v = some (.int (0 : Int32)) ∧ h0 = h) := by
  refine Does.start (plainFor_of_name pn_5) ?_
  intro p e s m below meth c T X
  replace X : Sd Z n0 0 jdk_52_method_15_code 2 "java/lang/StringUTF16" "coderFromArrayLen" (some .byte) h0 p l e { frames := 0, cells := 0, slots := 0, locals := 0 } s m #[(.ref a), (.int (3 : Int32))] below meth c T [] 0 0 := X
  refine Wp.cast (g' := mkF m 0 #[.val (.ref a), .val (.int (3 : Int32))] []) (by first | (simp [entryFrame, mkF, argsToLocals, Value.category, maxLocals]; done) | rfl) ?_
  refine w_iloadN X djdk_52_15_0 rfl ?_
  refine w_aloadN X djdk_52_15_1 rfl (rfl) ?_
  refine w_arrlen X (3 : Int32) djdk_52_15_2 Aa rfl ?_
  refine w_isub X djdk_52_15_3 ?_
  refine w_bipush X (31 : Int32) djdk_52_15_4 rfl ?_
  refine w_iushr X djdk_52_15_6 ?_
  refine w_i2b X djdk_52_15_7 ?_
  exact w_ret_byte X (0 : Int32) (by decide) djdk_52_15_8 ⟨rfl, rfl⟩ (by decide) (by decide)
set_option maxRecDepth 65536 in
set_option maxHeartbeats 40000000 in
theorem m_si4_3 {l : Launch} {Z : State} {a0 : Array Value} {n0 : Nat} (hw : ∀ d ∈ tables_1, d.before a0 Z = true) {h0 : Heap} {zc : Int32} {fm : Value} {a b : Addr} {c0 c1 c2 : Int32} (hS : own_S Z zc fm) (ga : n0 ≤ a) (Ea : Exa Z h0 a "java/lang/String") (Va : Fld Z h0 a "java/lang/String" "value" "[B" .null) (Ca : Fld Z h0 a "java/lang/String" "coder" "B" (.int (0 : Int32))) (Ab : Ary Z h0 b .char [(.int c0), (.int c1), (.int c2)]) (l0 : ¬ (255 : Int32) < c0) (l1 : ¬ (255 : Int32) < c1) (l2 : ¬ (255 : Int32) < c2) :
    Does l Z n0 ⟨"java/lang/String", "<init>", "([CIILjava/lang/Void;)V"⟩ jdk_42_method_149_code 6 none [] { frames := 2, cells := 1, slots := 3, locals := 35 } #[(.ref a), (.ref b), (.int (0 : Int32)), (.int (3 : Int32)), .null] h0 (fun v h => v = none ∧ Exa Z h a "java/lang/String" ∧ Fld Z h a "java/lang/String" "coder" "B" (.int (0 : Int32)) ∧ Keep h0 h [a] ∧ ∃ t, h0.size ≤ t ∧ n0 ≤ t ∧ Fld Z h a "java/lang/String" "value" "[B" (.ref t) ∧ Ary Z h t .byte [(.int (c0.toInt8.toInt32)), (.int (c1.toInt8.toInt32)), (.int (c2.toInt8.toInt32))]) := by
  refine Does.start (plainFor_of_name pn_4) ?_
  obtain ⟨S_zc, hzc, S_fm, hfm⟩ := id hS
  intro p e s m below meth c T X
  replace X : Sd Z n0 0 jdk_42_method_149_code 6 "java/lang/String" "<init>" none h0 p l e { frames := 2, cells := 1, slots := 3, locals := 35 } s m #[(.ref a), (.ref b), (.int (0 : Int32)), (.int (3 : Int32)), .null] below meth c T [] 0 0 := X
  refine Wp.cast (g' := mkF m 0 #[.val (.ref a), .val (.ref b), .val (.int (0 : Int32)), .val (.int (3 : Int32)), .val .null, .unset] []) (by first | (simp [entryFrame, mkF, argsToLocals, Value.category, maxLocals]; done) | rfl) ?_
  refine w_aloadN X djdk_42_149_0 rfl (rfl) ?_
  refine w_initO X djdk_42_149_1 (wd_16 hw) (wd_17 hw) (wd_18 hw) rfl (by decide) (Nat.le_of_ble_eq_true rfl) (fun T X => ?_)
  refine w_iloadN X djdk_42_149_4 rfl ?_
  refine w_ifne X djdk_42_149_5 (fun _ => ?_) (fun hc => absurd hc (by decide))
  refine w_getS X djdk_42_149_27 (host := "") (Or.inl (wd_19 hw)) Via.refl (S_zc.ext X.old.2) (fun T X => ?_)
  refine w_ifeq X djdk_42_149_30 (fun hc => absurd hc hzc) (fun _ => ?_)
  refine w_aloadN X djdk_42_149_33 rfl (rfl) ?_
  refine w_iloadN X djdk_42_149_34 rfl ?_
  refine w_iloadN X djdk_42_149_35 rfl ?_
  refine w_callS X djdk_42_149_36 (wd_20 hw) (wd_21 hw) (wd_22 hw) (wd_23 hw) (by decide) (argsL := [(.ref b), (.int (0 : Int32)), (.int (3 : Int32))]) (S := []) (m_c3_3 hw Ab l0 l1 l2) pd_6 rfl rfl rfl (by decide) (Nat.le_of_ble_eq_true rfl) (by decide) (by decide) (fun T h1 v1 L1 X q1 => ?_)
  obtain ⟨t1, rfl, gt1, gn1, At1, Kc1⟩ := q1
  have K1 : Keep h0 h1 [a] := (Keep.refl h0 [a]).trans Kc1 (fun x hx => nomatch hx)
  have sz_t1 : h0.size ≤ t1 := Nat.le_trans (Keep.refl h0 [a]).1 gt1
  show Wp p e below _ (T.setTop (mkF m 39 #[.val (.ref a), .val (.ref b), .val (.int (0 : Int32)), .val (.int (3 : Int32)), .val .null, .unset] [(.ref t1)]))
  refine w_astore X #[.val (.ref a), .val (.ref b), .val (.int (0 : Int32)), .val (.int (3 : Int32)), .val .null, .val (.ref t1)] djdk_42_149_39 (rfl) rfl ?_
  refine w_aloadN X djdk_42_149_41 rfl (rfl) ?_
  refine w_aload X djdk_42_149_42 rfl (rfl) ?_
  refine w_iloadN X djdk_42_149_44 rfl ?_
  refine w_callS X djdk_42_149_45 (wd_28 hw) (wd_29 hw) (wd_22 hw) (wd_30 hw) (by decide) (argsL := [(.ref t1), (.int (3 : Int32))]) (S := [(.ref a)]) (m_cfal_3 hw At1) pd_7 rfl rfl rfl (by decide) (Nat.le_of_ble_eq_true rfl) (by decide) (by decide) (fun T h2 v2 L2 X q2 => ?_)
  obtain ⟨rfl, rfl⟩ := q2
  show Wp p e below _ (T.setTop (mkF m 48 #[.val (.ref a), .val (.ref b), .val (.int (0 : Int32)), .val (.int (3 : Int32)), .val .null, .val (.ref t1)] [(.int (0 : Int32)), (.ref a)]))
  have f2 := (Ea.keep Kc1)
  have f3 := (Ca.keep Kc1 (List.not_mem_nil))
  refine w_putFN X djdk_42_149_48 (wd_31 hw) Via.refl f3 f2 (Or.inr ⟨(wd_32 hw), rfl, rfl⟩) (wd_6 hw) (ty := .byte) (by decide) (.int (0 : Int32)) rfl (by decide) ga (fun T h3 X W3 => ?_)
  have f4 := f3.same W3
  have K5 : Keep h0 h3 [a] := K1.wr W3 (Or.inl (List.mem_of_getElem? (i := 0) rfl))
  refine w_aloadN X djdk_42_149_51 rfl (rfl) ?_
  refine w_aload X djdk_42_149_52 rfl (rfl) ?_
  have f6 := (f2.wr W3)
  have f7 := ((Va.keep Kc1 (List.not_mem_nil)).other W3 (Or.inr (slot_ne (Or.inr (wd_34 hw)) (Or.inr (wd_32 hw)) (by decide) (t := (.array .byte)) (t' := .byte) (by decide) (by decide))))
  refine w_putF X djdk_42_149_54 (host := "") (Or.inl (wd_33 hw)) Via.refl f7 f6 (Or.inr ⟨(wd_34 hw), rfl, rfl⟩) (wd_6 hw) (ty := (.array .byte)) (by decide) rfl rfl ga (fun T h4 X W4 => ?_)
  have f8 := f7.same W4
  have K9 : Keep h0 h4 [a] := K5.wr W4 (Or.inl (List.mem_of_getElem? (i := 0) rfl))
  have f10 := (f6.wr W4)
  have f11 := (f4.other W4 (Or.inr (slot_ne (Or.inr (wd_32 hw)) (Or.inr (wd_34 hw)) (by decide) (t := .byte) (t' := (.array .byte)) (by decide) (by decide))))
  have f12 := ((At1.other W3 (Ne.symm (Nat.ne_of_lt (Nat.lt_of_lt_of_le Ea.lt gt1)))).other W4 (Ne.symm (Nat.ne_of_lt (Nat.lt_of_lt_of_le Ea.lt gt1))))
  exact w_retV X djdk_42_149_57 ⟨rfl, f10, f11, K9, _, sz_t1, gn1, f8, f12⟩ (by decide) (by decide)
set_option maxRecDepth 65536 in
set_option maxHeartbeats 40000000 in
theorem m_si_3 {l : Launch} {Z : State} {a0 : Array Value} {n0 : Nat} (hw : ∀ d ∈ tables_1, d.before a0 Z = true) {h0 : Heap} {zc : Int32} {fm : Value} {a b : Addr} {c0 c1 c2 : Int32} (hS : own_S Z zc fm) (ga : n0 ≤ a) (Ea : Exa Z h0 a "java/lang/String") (Va : Fld Z h0 a "java/lang/String" "value" "[B" .null) (Ca : Fld Z h0 a "java/lang/String" "coder" "B" (.int (0 : Int32))) (Ab : Ary Z h0 b .char [(.int c0), (.int c1), (.int c2)]) (l0 : ¬ (255 : Int32) < c0) (l1 : ¬ (255 : Int32) < c1) (l2 : ¬ (255 : Int32) < c2) :
    Does l Z n0 ⟨"java/lang/String", "<init>", "([C)V"⟩ jdk_42_method_3_code 2 none [] { frames := 5, cells := 2, slots := 9, locals := 74 } #[(.ref a), (.ref b)] h0 (fun v h => v = none ∧ Exa Z h a "java/lang/String" ∧ Fld Z h a "java/lang/String" "coder" "B" (.int (0 : Int32)) ∧ Keep h0 h [a] ∧ ∃ t, h0.size ≤ t ∧ n0 ≤ t ∧ Fld Z h a "java/lang/String" "value" "[B" (.ref t) ∧ Ary Z h t .byte [(.int (c0.toInt8.toInt32)), (.int (c1.toInt8.toInt32)), (.int (c2.toInt8.toInt32))]) := by
  refine Does.start (plainFor_of_name pn_4) ?_
  obtain ⟨S_zc, hzc, S_fm, hfm⟩ := id hS
  intro p e s m below meth c T X
  replace X : Sd Z n0 0 jdk_42_method_3_code 2 "java/lang/String" "<init>" none h0 p l e { frames := 5, cells := 2, slots := 9, locals := 74 } s m #[(.ref a), (.ref b)] below meth c T [] 0 0 := X
  refine Wp.cast (g' := mkF m 0 #[.val (.ref a), .val (.ref b)] []) (by first | (simp [entryFrame, mkF, argsToLocals, Value.category, maxLocals]; done) | rfl) ?_
  refine w_aloadN X djdk_42_3_0 rfl (rfl) ?_
  refine w_aloadN X djdk_42_3_1 rfl (rfl) ?_
  refine w_iconst X (0 : Int32) djdk_42_3_2 rfl ?_
  refine w_aloadN X djdk_42_3_3 rfl (rfl) ?_
  refine w_arrlen X (3 : Int32) djdk_42_3_4 Ab rfl ?_
  refine w_aconstNull X djdk_42_3_5 ?_
  refine w_callI X djdk_42_3_6 rfl (wd_12 hw) (wd_13 hw) (wd_7 hw) (wd_15 hw) (by decide) (argsL := [(.ref b), (.int (0 : Int32)), (.int (3 : Int32)), .null]) (S := []) (m_si4_3 hw hS ga Ea Va Ca Ab l0 l1 l2) pd_3 rfl rfl rfl (by decide) (Nat.le_of_ble_eq_true rfl) (by decide) (by decide) (fun T h1 v1 L1 X q1 => ?_)
  obtain ⟨rfl, r1⟩ := q1
  show Wp p e below _ (T.setTop (mkF m 9 #[.val (.ref a), .val (.ref b)] []))
  exact w_retV X djdk_42_3_9 ⟨rfl, r1⟩ (by decide) (by decide)
set_option maxRecDepth 65536 in
set_option maxHeartbeats 40000000 in
theorem m_c5_3_0 {l : Launch} {Z : State} {a0 : Array Value} {n0 : Nat} (hw : ∀ d ∈ tables_1, d.before a0 Z = true) {h0 : Heap} {a b : Addr} {c0 c1 c2 : Int32} (Aa : Ary Z h0 a .char [(.int c0), (.int c1), (.int c2)]) (Ab : Ary Z h0 b .byte [(.int (0 : Int32)), (.int (0 : Int32)), (.int (0 : Int32))]) (gb : n0 ≤ b) (nab : a ≠ b)  (gk : (255 : Int32) < c0) :
    Does l Z n0 ⟨"java/lang/StringUTF16", "compress", "([CI[BII)I"⟩ jdk_52_method_21_code 7 (some .int) [] { frames := 0, cells := 0, slots := 0, locals := 0 } #[(.ref a), (.int (0 : Int32)), (.ref b), (.int (0 : Int32)), (.int (3 : Int32))] h0 (fun v h => v = some (.int (0 : Int32)) ∧ Keep h0 h [b]) := by
  refine Does.start (plainFor_of_name pn_5) ?_
  intro p e s m below meth c T X
  replace X : Sd Z n0 0 jdk_52_method_21_code 7 "java/lang/StringUTF16" "compress" (some .int) h0 p l e { frames := 0, cells := 0, slots := 0, locals := 0 } s m #[(.ref a), (.int (0 : Int32)), (.ref b), (.int (0 : Int32)), (.int (3 : Int32))] below meth c T [] 0 0 := X
  refine Wp.cast (g' := mkF m 0 #[.val (.ref a), .val (.int (0 : Int32)), .val (.ref b), .val (.int (0 : Int32)), .val (.int (3 : Int32)), .unset, .unset] []) (by first | (simp [entryFrame, mkF, argsToLocals, Value.category, maxLocals]; done) | rfl) ?_
  refine w_iconst X (0 : Int32) djdk_52_21_0 rfl ?_
  refine w_istore X #[.val (.ref a), .val (.int (0 : Int32)), .val (.ref b), .val (.int (0 : Int32)), .val (.int (3 : Int32)), .val (.int (0 : Int32)), .unset] djdk_52_21_1 rfl ?_
  refine w_iload X djdk_52_21_3 rfl ?_
  refine w_iload X djdk_52_21_5 rfl ?_
  refine w_icmpge X djdk_52_21_7 (fun hc => absurd (by decide) hc) (fun _ => ?_)
  refine w_aloadN X djdk_52_21_10 rfl (rfl) ?_
  refine w_iloadN X djdk_52_21_11 rfl ?_
  refine w_caload X djdk_52_21_12 Aa (by decide) rfl ?_
  refine w_istore X #[.val (.ref a), .val (.int (0 : Int32)), .val (.ref b), .val (.int (0 : Int32)), .val (.int (3 : Int32)), .val (.int (0 : Int32)), .val (.int c0)] djdk_52_21_13 rfl ?_
  refine w_iload X djdk_52_21_15 rfl ?_
  refine w_sipush X (255 : Int32) djdk_52_21_17 rfl ?_
  refine w_icmple X djdk_52_21_20 (fun hc => absurd gk hc) (fun _ => ?_)
  refine w_iload X djdk_52_21_23 rfl ?_
  exact w_retI X djdk_52_21_25 ⟨rfl, (Keep.refl h0 [b])⟩ (by decide) (by decide)
set_option maxRecDepth 65536 in
set_option maxHeartbeats 40000000 in
theorem m_nbl_3 {l : Launch} {Z : State} {a0 : Array Value} {n0 : Nat} (hw : ∀ d ∈ tables_1, d.before a0 Z = true) {h0 : Heap}   :
    Does l Z n0 ⟨"java/lang/StringUTF16", "newBytesLength", "(I)I"⟩ jdk_52_method_3_code 1 (some .int) [] { frames := 0, cells := 0, slots := 0, locals := 0 } #[(.int (3 : Int32))] h0 (fun v h => v = some (.int (6 : Int32)) ∧ h0 = h) := by
  refine Does.start (plainFor_of_name pn_5) ?_
  intro p e s m below meth c T X
  replace X : Sd Z n0 0 jdk_52_method_3_code 1 "java/lang/StringUTF16" "newBytesLength" (some .int) h0 p l e { frames := 0, cells := 0, slots := 0, locals := 0 } s m #[(.int (3 : Int32))] below meth c T [] 0 0 := X
  refine Wp.cast (g' := mkF m 0 #[.val (.int (3 : Int32))] []) (by first | (simp [entryFrame, mkF, argsToLocals, Value.category, maxLocals]; done) | rfl) ?_
  refine w_iloadN X djdk_52_3_0 rfl ?_
  refine w_ifge X djdk_52_3_1 (fun _ => ?_) (fun hc => absurd hc (by decide))
  refine w_iloadN X djdk_52_3_12 rfl ?_
  refine w_ldcI X djdk_52_3_13 (wd_110 hw) ?_
  refine w_icmplt X djdk_52_3_15 (fun _ => ?_) (fun hc => absurd (by decide) hc)
  refine w_iloadN X djdk_52_3_55 rfl ?_
  refine w_iconst X (1 : Int32) djdk_52_3_56 rfl ?_
  refine w_ishl X djdk_52_3_57 ?_
  exact w_retI X djdk_52_3_58 ⟨rfl, rfl⟩ (by decide) (by decide)
set_option maxRecDepth 65536 in
set_option maxHeartbeats 40000000 in
theorem m_nbf_3 {l : Launch} {Z : State} {a0 : Array Value} {n0 : Nat} (hw : ∀ d ∈ tables_1, d.before a0 Z = true) {h0 : Heap}   :
    Does l Z n0 ⟨"java/lang/StringUTF16", "newBytesFor", "(I)[B"⟩ jdk_52_method_2_code 1 (some (.array .byte)) [] { frames := 1, cells := 1, slots := 6, locals := 12 } #[(.int (3 : Int32))] h0 (fun v h => ∃ t, v = some (.ref t) ∧ h0.size ≤ t ∧ n0 ≤ t ∧ Ary Z h t .byte [(.int (0 : Int32)), (.int (0 : Int32)), (.int (0 : Int32)), (.int (0 : Int32)), (.int (0 : Int32)), (.int (0 : Int32))] ∧ Keep h0 h []) := by
  refine Does.start (plainFor_of_name pn_5) ?_
  intro p e s m below meth c T X
  replace X : Sd Z n0 0 jdk_52_method_2_code 1 "java/lang/StringUTF16" "newBytesFor" (some (.array .byte)) h0 p l e { frames := 1, cells := 1, slots := 6, locals := 12 } s m #[(.int (3 : Int32))] below meth c T [] 0 0 := X
  refine Wp.cast (g' := mkF m 0 #[.val (.int (3 : Int32))] []) (by first | (simp [entryFrame, mkF, argsToLocals, Value.category, maxLocals]; done) | rfl) ?_
  refine w_iloadN X djdk_52_2_0 rfl ?_
  refine w_callS X djdk_52_2_1 (wd_107 hw) (wd_108 hw) (wd_22 hw) (wd_109 hw) (by decide) (argsL := [(.int (3 : Int32))]) (S := []) (m_nbl_3 hw) pd_8 rfl rfl rfl (by decide) (Nat.le_of_ble_eq_true rfl) (by decide) (by decide) (fun T h1 v1 L1 X q1 => ?_)
  obtain ⟨rfl, rfl⟩ := q1
  show Wp p e below _ (T.setTop (mkF m 4 #[.val (.int (3 : Int32))] [(.int (6 : Int32))]))
  refine w_newarr X djdk_52_2_4 (wd_24 hw) 6 6 (by decide) (by decide) (by decide) (by decide) (by decide) (by decide) (fun T h2 b2 g2 gn2 X E2 A2 => ?_)
  replace A2 : Ary Z h2 b2 .byte [(.int (0 : Int32)), (.int (0 : Int32)), (.int (0 : Int32)), (.int (0 : Int32)), (.int (0 : Int32)), (.int (0 : Int32))] := A2
  have sz_b2 : h0.size ≤ b2 := Nat.le_trans (Keep.refl h0 []).1 (Nat.le_of_eq g2.symm)
  have K1 : Keep h0 h2 [] := (Keep.refl h0 []).ext E2
  exact w_retR X rfl (rfl) rfl djdk_52_2_6 ⟨_, rfl, sz_b2, gn2, A2, K1⟩ (by decide) (by decide)
set_option maxRecDepth 65536 in
set_option maxHeartbeats 40000000 in
theorem m_put_3_0 {l : Launch} {Z : State} {a0 : Array Value} {n0 : Nat} (hw : ∀ d ∈ tables_1, d.before a0 Z = true) {h0 : Heap} {a : Addr} {x0 x1 x2 x3 x4 x5 d : Int32} {zc : Int32} {fm : Value} (hU : own_U Z zc fm) (ga : n0 ≤ a) (Aa : Ary Z h0 a .byte [(.int x0), (.int x1), (.int x2), (.int x3), (.int x4), (.int x5)]) :
    Does l Z n0 ⟨"java/lang/StringUTF16", "putChar", "([BII)V"⟩ jdk_52_method_4_code 3 none [] { frames := 0, cells := 0, slots := 0, locals := 0 } #[(.ref a), (.int (0 : Int32)), (.int d)] h0 (fun v h => v = none ∧ Ary Z h a .byte [(.int ((d >>> ((0 : Int32) &&& 31)).toInt8.toInt32)), (.int ((d >>> ((8 : Int32) &&& 31)).toInt8.toInt32)), (.int x2), (.int x3), (.int x4), (.int x5)] ∧ Keep h0 h [a]) := by
  refine Does.start (plainFor_of_name pn_5) ?_
  obtain ⟨hS, S_ad, S_hi, S_lo⟩ := id hU
  obtain ⟨S_zc, hzc, S_fm, hfm⟩ := id hS
  intro p e s m below meth c T X
  replace X : Sd Z n0 0 jdk_52_method_4_code 3 "java/lang/StringUTF16" "putChar" none h0 p l e { frames := 0, cells := 0, slots := 0, locals := 0 } s m #[(.ref a), (.int (0 : Int32)), (.int d)] below meth c T [] 0 0 := X
  refine Wp.cast (g' := mkF m 0 #[.val (.ref a), .val (.int (0 : Int32)), .val (.int d)] []) (by first | (simp [entryFrame, mkF, argsToLocals, Value.category, maxLocals]; done) | rfl) ?_
  refine w_getS X djdk_52_4_0 (host := "") (Or.inl (wd_114 hw)) Via.refl (S_ad.ext X.old.2) (fun T X => ?_)
  refine w_ifne X djdk_52_4_3 (fun _ => ?_) (fun hc => absurd hc (by decide))
  refine w_iloadN X djdk_52_4_28 rfl ?_
  refine w_iconst X (1 : Int32) djdk_52_4_29 rfl ?_
  refine w_ishl X djdk_52_4_30 ?_
  refine w_istoreN X #[.val (.ref a), .val (.int (0 : Int32)), .val (.int d)] djdk_52_4_31 rfl ?_
  refine w_aloadN X djdk_52_4_32 rfl (rfl) ?_
  refine w_iloadN X djdk_52_4_33 rfl ?_
  refine w_iinc X (1 : Int32) #[.val (.ref a), .val (.int (1 : Int32)), .val (.int d)] djdk_52_4_34 rfl rfl rfl ?_
  refine w_iloadN X djdk_52_4_37 rfl ?_
  refine w_getS X djdk_52_4_38 (host := "") (Or.inl (wd_115 hw)) Via.refl (S_hi.ext X.old.2) (fun T X => ?_)
  refine w_ishr X djdk_52_4_41 ?_
  refine w_i2b X djdk_52_4_42 ?_
  refine w_bastore X djdk_52_4_43 Aa (by decide) rfl ga (.int ((d >>> ((0 : Int32) &&& 31)).toInt8.toInt32)) (congrArg Value.int (own_nar_b _)) [(.int ((d >>> ((0 : Int32) &&& 31)).toInt8.toInt32)), (.int x1), (.int x2), (.int x3), (.int x4), (.int x5)] rfl (fun T h1 X W1 A1 => ?_)
  have K1 : Keep h0 h1 [a] := (Keep.refl h0 [a]).wr W1 (Or.inl (List.mem_of_getElem? (i := 0) rfl))
  refine w_aloadN X djdk_52_4_44 rfl (rfl) ?_
  refine w_iloadN X djdk_52_4_45 rfl ?_
  refine w_iloadN X djdk_52_4_46 rfl ?_
  refine w_getS X djdk_52_4_47 (host := "") (Or.inl (wd_116 hw)) Via.refl (S_lo.ext X.old.2) (fun T X => ?_)
  refine w_ishr X djdk_52_4_50 ?_
  refine w_i2b X djdk_52_4_51 ?_
  refine w_bastore X djdk_52_4_52 A1 (by decide) rfl ga (.int ((d >>> ((8 : Int32) &&& 31)).toInt8.toInt32)) (congrArg Value.int (own_nar_b _)) [(.int ((d >>> ((0 : Int32) &&& 31)).toInt8.toInt32)), (.int ((d >>> ((8 : Int32) &&& 31)).toInt8.toInt32)), (.int x2), (.int x3), (.int x4), (.int x5)] rfl (fun T h2 X W2 A2 => ?_)
  have K2 : Keep h0 h2 [a] := K1.wr W2 (Or.inl (List.mem_of_getElem? (i := 0) rfl))
  exact w_retV X djdk_52_4_53 ⟨rfl, A2, K2⟩ (by decide) (by decide)
set_option maxRecDepth 65536 in
set_option maxHeartbeats 40000000 in
theorem m_put_3_1 {l : Launch} {Z : State} {a0 : Array Value} {n0 : Nat} (hw : ∀ d ∈ tables_1, d.before a0 Z = true) {h0 : Heap} {a : Addr} {x0 x1 x2 x3 x4 x5 d : Int32} {zc : Int32} {fm : Value} (hU : own_U Z zc fm) (ga : n0 ≤ a) (Aa : Ary Z h0 a .byte [(.int x0), (.int x1), (.int x2), (.int x3), (.int x4), (.int x5)]) :
    Does l Z n0 ⟨"java/lang/StringUTF16", "putChar", "([BII)V"⟩ jdk_52_method_4_code 3 none [] { frames := 0, cells := 0, slots := 0, locals := 0 } #[(.ref a), (.int (1 : Int32)), (.int d)] h0 (fun v h => v = none ∧ Ary Z h a .byte [(.int x0), (.int x1), (.int ((d >>> ((0 : Int32) &&& 31)).toInt8.toInt32)), (.int ((d >>> ((8 : Int32) &&& 31)).toInt8.toInt32)), (.int x4), (.int x5)] ∧ Keep h0 h [a]) := by
  refine Does.start (plainFor_of_name pn_5) ?_
  obtain ⟨hS, S_ad, S_hi, S_lo⟩ := id hU
  obtain ⟨S_zc, hzc, S_fm, hfm⟩ := id hS
  intro p e s m below meth c T X
  replace X : Sd Z n0 0 jdk_52_method_4_code 3 "java/lang/StringUTF16" "putChar" none h0 p l e { frames := 0, cells := 0, slots := 0, locals := 0 } s m #[(.ref a), (.int (1 : Int32)), (.int d)] below meth c T [] 0 0 := X
  refine Wp.cast (g' := mkF m 0 #[.val (.ref a), .val (.int (1 : Int32)), .val (.int d)] []) (by first | (simp [entryFrame, mkF, argsToLocals, Value.category, maxLocals]; done) | rfl) ?_
  refine w_getS X djdk_52_4_0 (host := "") (Or.inl (wd_114 hw)) Via.refl (S_ad.ext X.old.2) (fun T X => ?_)
  refine w_ifne X djdk_52_4_3 (fun _ => ?_) (fun hc => absurd hc (by decide))
  refine w_iloadN X djdk_52_4_28 rfl ?_
  refine w_iconst X (1 : Int32) djdk_52_4_29 rfl ?_
  refine w_ishl X djdk_52_4_30 ?_
  refine w_istoreN X #[.val (.ref a), .val (.int (2 : Int32)), .val (.int d)] djdk_52_4_31 rfl ?_
  refine w_aloadN X djdk_52_4_32 rfl (rfl) ?_
  refine w_iloadN X djdk_52_4_33 rfl ?_
  refine w_iinc X (1 : Int32) #[.val (.ref a), .val (.int (3 : Int32)), .val (.int d)] djdk_52_4_34 rfl rfl rfl ?_
  refine w_iloadN X djdk_52_4_37 rfl ?_
  refine w_getS X djdk_52_4_38 (host := "") (Or.inl (wd_115 hw)) Via.refl (S_hi.ext X.old.2) (fun T X => ?_)
  refine w_ishr X djdk_52_4_41 ?_
  refine w_i2b X djdk_52_4_42 ?_
  refine w_bastore X djdk_52_4_43 Aa (by decide) rfl ga (.int ((d >>> ((0 : Int32) &&& 31)).toInt8.toInt32)) (congrArg Value.int (own_nar_b _)) [(.int x0), (.int x1), (.int ((d >>> ((0 : Int32) &&& 31)).toInt8.toInt32)), (.int x3), (.int x4), (.int x5)] rfl (fun T h1 X W1 A1 => ?_)
  have K1 : Keep h0 h1 [a] := (Keep.refl h0 [a]).wr W1 (Or.inl (List.mem_of_getElem? (i := 0) rfl))
  refine w_aloadN X djdk_52_4_44 rfl (rfl) ?_
  refine w_iloadN X djdk_52_4_45 rfl ?_
  refine w_iloadN X djdk_52_4_46 rfl ?_
  refine w_getS X djdk_52_4_47 (host := "") (Or.inl (wd_116 hw)) Via.refl (S_lo.ext X.old.2) (fun T X => ?_)
  refine w_ishr X djdk_52_4_50 ?_
  refine w_i2b X djdk_52_4_51 ?_
  refine w_bastore X djdk_52_4_52 A1 (by decide) rfl ga (.int ((d >>> ((8 : Int32) &&& 31)).toInt8.toInt32)) (congrArg Value.int (own_nar_b _)) [(.int x0), (.int x1), (.int ((d >>> ((0 : Int32) &&& 31)).toInt8.toInt32)), (.int ((d >>> ((8 : Int32) &&& 31)).toInt8.toInt32)), (.int x4), (.int x5)] rfl (fun T h2 X W2 A2 => ?_)
  have K2 : Keep h0 h2 [a] := K1.wr W2 (Or.inl (List.mem_of_getElem? (i := 0) rfl))
  exact w_retV X djdk_52_4_53 ⟨rfl, A2, K2⟩ (by decide) (by decide)
set_option maxRecDepth 65536 in
set_option maxHeartbeats 40000000 in
theorem m_put_3_2 {l : Launch} {Z : State} {a0 : Array Value} {n0 : Nat} (hw : ∀ d ∈ tables_1, d.before a0 Z = true) {h0 : Heap} {a : Addr} {x0 x1 x2 x3 x4 x5 d : Int32} {zc : Int32} {fm : Value} (hU : own_U Z zc fm) (ga : n0 ≤ a) (Aa : Ary Z h0 a .byte [(.int x0), (.int x1), (.int x2), (.int x3), (.int x4), (.int x5)]) :
    Does l Z n0 ⟨"java/lang/StringUTF16", "putChar", "([BII)V"⟩ jdk_52_method_4_code 3 none [] { frames := 0, cells := 0, slots := 0, locals := 0 } #[(.ref a), (.int (2 : Int32)), (.int d)] h0 (fun v h => v = none ∧ Ary Z h a .byte [(.int x0), (.int x1), (.int x2), (.int x3), (.int ((d >>> ((0 : Int32) &&& 31)).toInt8.toInt32)), (.int ((d >>> ((8 : Int32) &&& 31)).toInt8.toInt32))] ∧ Keep h0 h [a]) := by
  refine Does.start (plainFor_of_name pn_5) ?_
  obtain ⟨hS, S_ad, S_hi, S_lo⟩ := id hU
  obtain ⟨S_zc, hzc, S_fm, hfm⟩ := id hS
  intro p e s m below meth c T X
  replace X : Sd Z n0 0 jdk_52_method_4_code 3 "java/lang/StringUTF16" "putChar" none h0 p l e { frames := 0, cells := 0, slots := 0, locals := 0 } s m #[(.ref a), (.int (2 : Int32)), (.int d)] below meth c T [] 0 0 := X
  refine Wp.cast (g' := mkF m 0 #[.val (.ref a), .val (.int (2 : Int32)), .val (.int d)] []) (by first | (simp [entryFrame, mkF, argsToLocals, Value.category, maxLocals]; done) | rfl) ?_
  refine w_getS X djdk_52_4_0 (host := "") (Or.inl (wd_114 hw)) Via.refl (S_ad.ext X.old.2) (fun T X => ?_)
  refine w_ifne X djdk_52_4_3 (fun _ => ?_) (fun hc => absurd hc (by decide))
  refine w_iloadN X djdk_52_4_28 rfl ?_
  refine w_iconst X (1 : Int32) djdk_52_4_29 rfl ?_
  refine w_ishl X djdk_52_4_30 ?_
  refine w_istoreN X #[.val (.ref a), .val (.int (4 : Int32)), .val (.int d)] djdk_52_4_31 rfl ?_
  refine w_aloadN X djdk_52_4_32 rfl (rfl) ?_
  refine w_iloadN X djdk_52_4_33 rfl ?_
  refine w_iinc X (1 : Int32) #[.val (.ref a), .val (.int (5 : Int32)), .val (.int d)] djdk_52_4_34 rfl rfl rfl ?_
  refine w_iloadN X djdk_52_4_37 rfl ?_
  refine w_getS X djdk_52_4_38 (host := "") (Or.inl (wd_115 hw)) Via.refl (S_hi.ext X.old.2) (fun T X => ?_)
  refine w_ishr X djdk_52_4_41 ?_
  refine w_i2b X djdk_52_4_42 ?_
  refine w_bastore X djdk_52_4_43 Aa (by decide) rfl ga (.int ((d >>> ((0 : Int32) &&& 31)).toInt8.toInt32)) (congrArg Value.int (own_nar_b _)) [(.int x0), (.int x1), (.int x2), (.int x3), (.int ((d >>> ((0 : Int32) &&& 31)).toInt8.toInt32)), (.int x5)] rfl (fun T h1 X W1 A1 => ?_)
  have K1 : Keep h0 h1 [a] := (Keep.refl h0 [a]).wr W1 (Or.inl (List.mem_of_getElem? (i := 0) rfl))
  refine w_aloadN X djdk_52_4_44 rfl (rfl) ?_
  refine w_iloadN X djdk_52_4_45 rfl ?_
  refine w_iloadN X djdk_52_4_46 rfl ?_
  refine w_getS X djdk_52_4_47 (host := "") (Or.inl (wd_116 hw)) Via.refl (S_lo.ext X.old.2) (fun T X => ?_)
  refine w_ishr X djdk_52_4_50 ?_
  refine w_i2b X djdk_52_4_51 ?_
  refine w_bastore X djdk_52_4_52 A1 (by decide) rfl ga (.int ((d >>> ((8 : Int32) &&& 31)).toInt8.toInt32)) (congrArg Value.int (own_nar_b _)) [(.int x0), (.int x1), (.int x2), (.int x3), (.int ((d >>> ((0 : Int32) &&& 31)).toInt8.toInt32)), (.int ((d >>> ((8 : Int32) &&& 31)).toInt8.toInt32))] rfl (fun T h2 X W2 A2 => ?_)
  have K2 : Keep h0 h2 [a] := K1.wr W2 (Or.inl (List.mem_of_getElem? (i := 0) rfl))
  exact w_retV X djdk_52_4_53 ⟨rfl, A2, K2⟩ (by decide) (by decide)
set_option maxRecDepth 65536 in
set_option maxHeartbeats 40000000 in
theorem m_tob16_3 {l : Launch} {Z : State} {a0 : Array Value} {n0 : Nat} (hw : ∀ d ∈ tables_1, d.before a0 Z = true) {h0 : Heap} {zc : Int32} {fm : Value} {a : Addr} {c0 c1 c2 : Int32} (hU : own_U Z zc fm) (Aa : Ary Z h0 a .char [(.int c0), (.int c1), (.int c2)]) :
    Does l Z n0 ⟨"java/lang/StringUTF16", "toBytes", "([CII)[B"⟩ jdk_52_method_14_code 5 (some (.array .byte)) [] { frames := 2, cells := 1, slots := 6, locals := 24 } #[(.ref a), (.int (0 : Int32)), (.int (3 : Int32))] h0 (fun v h => ∃ t, v = some (.ref t) ∧ h0.size ≤ t ∧ n0 ≤ t ∧ Ary Z h t .byte [(.int ((c0 >>> ((0 : Int32) &&& 31)).toInt8.toInt32)), (.int ((c0 >>> ((8 : Int32) &&& 31)).toInt8.toInt32)), (.int ((c1 >>> ((0 : Int32) &&& 31)).toInt8.toInt32)), (.int ((c1 >>> ((8 : Int32) &&& 31)).toInt8.toInt32)), (.int ((c2 >>> ((0 : Int32) &&& 31)).toInt8.toInt32)), (.int ((c2 >>> ((8 : Int32) &&& 31)).toInt8.toInt32))] ∧ Keep h0 h []) := by
  refine Does.start (plainFor_of_name pn_5) ?_
  obtain ⟨hS, S_ad, S_hi, S_lo⟩ := id hU
  obtain ⟨S_zc, hzc, S_fm, hfm⟩ := id hS
  intro p e s m below meth c T X
  replace X : Sd Z n0 0 jdk_52_method_14_code 5 "java/lang/StringUTF16" "toBytes" (some (.array .byte)) h0 p l e { frames := 2, cells := 1, slots := 6, locals := 24 } s m #[(.ref a), (.int (0 : Int32)), (.int (3 : Int32))] below meth c T [] 0 0 := X
  refine Wp.cast (g' := mkF m 0 #[.val (.ref a), .val (.int (0 : Int32)), .val (.int (3 : Int32)), .unset, .unset] []) (by first | (simp [entryFrame, mkF, argsToLocals, Value.category, maxLocals]; done) | rfl) ?_
  refine w_iloadN X djdk_52_14_0 rfl ?_
  refine w_callS X djdk_52_14_1 (wd_104 hw) (wd_105 hw) (wd_22 hw) (wd_106 hw) (by decide) (argsL := [(.int (3 : Int32))]) (S := []) (m_nbf_3 hw) pd_9 rfl rfl rfl (by decide) (Nat.le_of_ble_eq_true rfl) (by decide) (by decide) (fun T h1 v1 L1 X q1 => ?_)
  obtain ⟨t1, rfl, gt1, gn1, At1, Kc1⟩ := q1
  have K1 : Keep h0 h1 [] := (Keep.refl h0 []).trans Kc1 (fun x hx => nomatch hx)
  have sz_t1 : h0.size ≤ t1 := Nat.le_trans (Keep.refl h0 []).1 gt1
  show Wp p e below _ (T.setTop (mkF m 4 #[.val (.ref a), .val (.int (0 : Int32)), .val (.int (3 : Int32)), .unset, .unset] [(.ref t1)]))
  refine w_astoreN X #[.val (.ref a), .val (.int (0 : Int32)), .val (.int (3 : Int32)), .val (.ref t1), .unset] djdk_52_14_4 (rfl) rfl ?_
  refine w_iconst X (0 : Int32) djdk_52_14_5 rfl ?_
  refine w_istore X #[.val (.ref a), .val (.int (0 : Int32)), .val (.int (3 : Int32)), .val (.ref t1), .val (.int (0 : Int32))] djdk_52_14_6 rfl ?_
  refine w_iload X djdk_52_14_8 rfl ?_
  refine w_iloadN X djdk_52_14_10 rfl ?_
  refine w_icmpge X djdk_52_14_11 (fun hc => absurd (by decide) hc) (fun _ => ?_)
  refine w_aloadN X djdk_52_14_14 rfl (rfl) ?_
  refine w_iload X djdk_52_14_15 rfl ?_
  refine w_aloadN X djdk_52_14_17 rfl (rfl) ?_
  refine w_iloadN X djdk_52_14_18 rfl ?_
  have f2 := (Aa.keep Kc1 (List.not_mem_nil))
  refine w_caload X djdk_52_14_19 f2 (by decide) rfl ?_
  refine w_callS X djdk_52_14_20 (wd_111 hw) (wd_112 hw) (wd_22 hw) (wd_113 hw) (by decide) (argsL := [(.ref t1), (.int (0 : Int32)), (.int c0)]) (S := []) (m_put_3_0 hw (d := c0) hU gn1 At1) pd_10 rfl rfl rfl (by decide) (Nat.le_of_ble_eq_true rfl) (by decide) (by decide) (fun T h2 v2 L2 X q2 => ?_)
  obtain ⟨rfl, Ap2, Kc2⟩ := q2
  have K3 : Keep h0 h2 [] := K1.trans Kc2 (fun x hx => by cases List.mem_singleton.mp hx; exact (Or.inr sz_t1))
  show Wp p e below _ (T.setTop (mkF m 23 #[.val (.ref a), .val (.int (0 : Int32)), .val (.int (3 : Int32)), .val (.ref t1), .val (.int (0 : Int32))] []))
  refine w_iinc X (1 : Int32) #[.val (.ref a), .val (.int (1 : Int32)), .val (.int (3 : Int32)), .val (.ref t1), .val (.int (0 : Int32))] djdk_52_14_23 rfl rfl rfl ?_
  refine w_iinc X (1 : Int32) #[.val (.ref a), .val (.int (1 : Int32)), .val (.int (3 : Int32)), .val (.ref t1), .val (.int (1 : Int32))] djdk_52_14_26 rfl rfl rfl ?_
  refine w_goto X djdk_52_14_29 ?_
  refine w_iload X djdk_52_14_8 rfl ?_
  refine w_iloadN X djdk_52_14_10 rfl ?_
  refine w_icmpge X djdk_52_14_11 (fun hc => absurd (by decide) hc) (fun _ => ?_)
  refine w_aloadN X djdk_52_14_14 rfl (rfl) ?_
  refine w_iload X djdk_52_14_15 rfl ?_
  refine w_aloadN X djdk_52_14_17 rfl (rfl) ?_
  refine w_iloadN X djdk_52_14_18 rfl ?_
  have f4 := (f2.keep Kc2 (by simp only [List.mem_cons, List.not_mem_nil, or_false]; exact (Nat.ne_of_lt (Nat.lt_of_lt_of_le Aa.lt gt1))))
  refine w_caload X djdk_52_14_19 f4 (by decide) rfl ?_
  refine w_callS X djdk_52_14_20 (wd_111 hw) (wd_112 hw) (wd_22 hw) (wd_113 hw) (by decide) (argsL := [(.ref t1), (.int (1 : Int32)), (.int c1)]) (S := []) (m_put_3_1 hw (d := c1) hU gn1 Ap2) pd_10 rfl rfl rfl (by decide) (Nat.le_of_ble_eq_true rfl) (by decide) (by decide) (fun T h3 v3 L3 X q3 => ?_)
  obtain ⟨rfl, Ap3, Kc3⟩ := q3
  have K5 : Keep h0 h3 [] := K3.trans Kc3 (fun x hx => by cases List.mem_singleton.mp hx; exact (Or.inr sz_t1))
  show Wp p e below _ (T.setTop (mkF m 23 #[.val (.ref a), .val (.int (1 : Int32)), .val (.int (3 : Int32)), .val (.ref t1), .val (.int (1 : Int32))] []))
  refine w_iinc X (1 : Int32) #[.val (.ref a), .val (.int (2 : Int32)), .val (.int (3 : Int32)), .val (.ref t1), .val (.int (1 : Int32))] djdk_52_14_23 rfl rfl rfl ?_
  refine w_iinc X (1 : Int32) #[.val (.ref a), .val (.int (2 : Int32)), .val (.int (3 : Int32)), .val (.ref t1), .val (.int (2 : Int32))] djdk_52_14_26 rfl rfl rfl ?_
  refine w_goto X djdk_52_14_29 ?_
  refine w_iload X djdk_52_14_8 rfl ?_
  refine w_iloadN X djdk_52_14_10 rfl ?_
  refine w_icmpge X djdk_52_14_11 (fun hc => absurd (by decide) hc) (fun _ => ?_)
  refine w_aloadN X djdk_52_14_14 rfl (rfl) ?_
  refine w_iload X djdk_52_14_15 rfl ?_
  refine w_aloadN X djdk_52_14_17 rfl (rfl) ?_
  refine w_iloadN X djdk_52_14_18 rfl ?_
  have f6 := (f4.keep Kc3 (by simp only [List.mem_cons, List.not_mem_nil, or_false]; exact (Nat.ne_of_lt (Nat.lt_of_lt_of_le Aa.lt gt1))))
  refine w_caload X djdk_52_14_19 f6 (by decide) rfl ?_
  refine w_callS X djdk_52_14_20 (wd_111 hw) (wd_112 hw) (wd_22 hw) (wd_113 hw) (by decide) (argsL := [(.ref t1), (.int (2 : Int32)), (.int c2)]) (S := []) (m_put_3_2 hw (d := c2) hU gn1 Ap3) pd_10 rfl rfl rfl (by decide) (Nat.le_of_ble_eq_true rfl) (by decide) (by decide) (fun T h4 v4 L4 X q4 => ?_)
  obtain ⟨rfl, Ap4, Kc4⟩ := q4
  have K7 : Keep h0 h4 [] := K5.trans Kc4 (fun x hx => by cases List.mem_singleton.mp hx; exact (Or.inr sz_t1))
  show Wp p e below _ (T.setTop (mkF m 23 #[.val (.ref a), .val (.int (2 : Int32)), .val (.int (3 : Int32)), .val (.ref t1), .val (.int (2 : Int32))] []))
  refine w_iinc X (1 : Int32) #[.val (.ref a), .val (.int (3 : Int32)), .val (.int (3 : Int32)), .val (.ref t1), .val (.int (2 : Int32))] djdk_52_14_23 rfl rfl rfl ?_
  refine w_iinc X (1 : Int32) #[.val (.ref a), .val (.int (3 : Int32)), .val (.int (3 : Int32)), .val (.ref t1), .val (.int (3 : Int32))] djdk_52_14_26 rfl rfl rfl ?_
  refine w_goto X djdk_52_14_29 ?_
  refine w_iload X djdk_52_14_8 rfl ?_
  refine w_iloadN X djdk_52_14_10 rfl ?_
  refine w_icmpge X djdk_52_14_11 (fun _ => ?_) (fun hc => absurd hc Int32.lt_irrefl)
  refine w_aloadN X djdk_52_14_32 rfl (rfl) ?_
  exact w_retR X rfl (rfl) rfl djdk_52_14_33 ⟨_, rfl, sz_t1, gn1, Ap4, K7⟩ (by decide) (by decide)
set_option maxRecDepth 65536 in
set_option maxHeartbeats 40000000 in
theorem m_getc_3_0 {l : Launch} {Z : State} {a0 : Array Value} {n0 : Nat} (hw : ∀ d ∈ tables_1, d.before a0 Z = true) {h0 : Heap} {zc : Int32} {fm : Value} {a : Addr} {r x0 x1 x2 x3 x4 x5 : Int32} (hU : own_U Z zc fm) (Aa : Ary Z h0 a .byte [(.int x0), (.int x1), (.int x2), (.int x3), (.int x4), (.int x5)]) (hr : (((x0 &&& (255 : Int32)) <<< ((0 : Int32) &&& 31)) ||| ((x1 &&& (255 : Int32)) <<< ((8 : Int32) &&& 31))).toUInt32.toUInt16.toUInt32.toInt32 = r) :
    Does l Z n0 ⟨"java/lang/StringUTF16", "getChar", "([BI)C"⟩ jdk_52_method_5_code 2 (some .char) [] { frames := 0, cells := 0, slots := 0, locals := 0 } #[(.ref a), (.int (0 : Int32))] h0 (fun v h => v = some (.int r) ∧ h0 = h) := by
  refine Does.start (plainFor_of_name pn_5) ?_
  obtain ⟨hS, S_ad, S_hi, S_lo⟩ := id hU
  obtain ⟨S_zc, hzc, S_fm, hfm⟩ := id hS
  intro p e s m below meth c T X
  replace X : Sd Z n0 0 jdk_52_method_5_code 2 "java/lang/StringUTF16" "getChar" (some .char) h0 p l e { frames := 0, cells := 0, slots := 0, locals := 0 } s m #[(.ref a), (.int (0 : Int32))] below meth c T [] 0 0 := X
  refine Wp.cast (g' := mkF m 0 #[.val (.ref a), .val (.int (0 : Int32))] []) (by first | (simp [entryFrame, mkF, argsToLocals, Value.category, maxLocals]; done) | rfl) ?_
  refine w_getS X djdk_52_5_0 (host := "") (Or.inl (wd_114 hw)) Via.refl (S_ad.ext X.old.2) (fun T X => ?_)
  refine w_ifne X djdk_52_5_3 (fun _ => ?_) (fun hc => absurd hc (by decide))
  refine w_iloadN X djdk_52_5_28 rfl ?_
  refine w_iconst X (1 : Int32) djdk_52_5_29 rfl ?_
  refine w_ishl X djdk_52_5_30 ?_
  refine w_istoreN X #[.val (.ref a), .val (.int (0 : Int32))] djdk_52_5_31 rfl ?_
  refine w_aloadN X djdk_52_5_32 rfl (rfl) ?_
  refine w_iloadN X djdk_52_5_33 rfl ?_
  refine w_iinc X (1 : Int32) #[.val (.ref a), .val (.int (1 : Int32))] djdk_52_5_34 rfl rfl rfl ?_
  refine w_baload X djdk_52_5_37 Aa (by decide) rfl ?_
  refine w_sipush X (255 : Int32) djdk_52_5_38 rfl ?_
  refine w_iand X djdk_52_5_41 ?_
  refine w_getS X djdk_52_5_42 (host := "") (Or.inl (wd_115 hw)) Via.refl (S_hi.ext X.old.2) (fun T X => ?_)
  refine w_ishl X djdk_52_5_45 ?_
  refine w_aloadN X djdk_52_5_46 rfl (rfl) ?_
  refine w_iloadN X djdk_52_5_47 rfl ?_
  refine w_baload X djdk_52_5_48 Aa (by decide) rfl ?_
  refine w_sipush X (255 : Int32) djdk_52_5_49 rfl ?_
  refine w_iand X djdk_52_5_52 ?_
  refine w_getS X djdk_52_5_53 (host := "") (Or.inl (wd_116 hw)) Via.refl (S_lo.ext X.old.2) (fun T X => ?_)
  refine w_ishl X djdk_52_5_56 ?_
  refine w_ior X djdk_52_5_57 ?_
  refine w_i2c X djdk_52_5_58 ?_
  exact w_ret_char X ((((x0 &&& (255 : Int32)) <<< ((0 : Int32) &&& 31)) ||| ((x1 &&& (255 : Int32)) <<< ((8 : Int32) &&& 31))).toUInt32.toUInt16.toUInt32.toInt32) (own_nar_c _) djdk_52_5_59 ⟨by rw [hr], rfl⟩ (by decide) (by decide)
set_option maxRecDepth 65536 in
set_option maxHeartbeats 40000000 in
theorem m_c3_3_0 {l : Launch} {Z : State} {a0 : Array Value} {n0 : Nat} (hw : ∀ d ∈ tables_1, d.before a0 Z = true) {h0 : Heap} {zc : Int32} {fm : Value} {a : Addr} {c0 c1 c2 : Int32} (hU : own_U Z zc fm) (Aa : Ary Z h0 a .char [(.int c0), (.int c1), (.int c2)]) (nc0 : nar .char c0 = c0) (nc1 : nar .char c1 = c1) (nc2 : nar .char c2 = c2)  (gk : (255 : Int32) < c0) :
    Does l Z n0 ⟨"java/lang/StringUTF16", "compress", "([CII)[B"⟩ jdk_52_method_16_code 6 (some (.array .byte)) [] { frames := 3, cells := 2, slots := 9, locals := 40 } #[(.ref a), (.int (0 : Int32)), (.int (3 : Int32))] h0 (fun v h => ∃ t, v = some (.ref t) ∧ h0.size ≤ t ∧ n0 ≤ t ∧ Ary Z h t .byte [(.int ((c0 >>> ((0 : Int32) &&& 31)).toInt8.toInt32)), (.int ((c0 >>> ((8 : Int32) &&& 31)).toInt8.toInt32)), (.int ((c1 >>> ((0 : Int32) &&& 31)).toInt8.toInt32)), (.int ((c1 >>> ((8 : Int32) &&& 31)).toInt8.toInt32)), (.int ((c2 >>> ((0 : Int32) &&& 31)).toInt8.toInt32)), (.int ((c2 >>> ((8 : Int32) &&& 31)).toInt8.toInt32))] ∧ Keep h0 h []) := by
  refine Does.start (plainFor_of_name pn_5) ?_
  obtain ⟨hS, S_ad, S_hi, S_lo⟩ := id hU
  obtain ⟨S_zc, hzc, S_fm, hfm⟩ := id hS
  intro p e s m below meth c T X
  replace X : Sd Z n0 0 jdk_52_method_16_code 6 "java/lang/StringUTF16" "compress" (some (.array .byte)) h0 p l e { frames := 3, cells := 2, slots := 9, locals := 40 } s m #[(.ref a), (.int (0 : Int32)), (.int (3 : Int32))] below meth c T [] 0 0 := X
  refine Wp.cast (g' := mkF m 0 #[.val (.ref a), .val (.int (0 : Int32)), .val (.int (3 : Int32)), .unset, .unset, .unset] []) (by first | (simp [entryFrame, mkF, argsToLocals, Value.category, maxLocals]; done) | rfl) ?_
  refine w_iloadN X djdk_52_16_0 rfl ?_
  refine w_newarr X djdk_52_16_1 (wd_24 hw) 3 3 (by decide) (by decide) (by decide) (by decide) (by decide) (by decide) (fun T h1 b1 g1 gn1 X E1 A1 => ?_)
  replace A1 : Ary Z h1 b1 .byte [(.int (0 : Int32)), (.int (0 : Int32)), (.int (0 : Int32))] := A1
  have sz_b1 : h0.size ≤ b1 := Nat.le_trans (Keep.refl h0 []).1 (Nat.le_of_eq g1.symm)
  have K1 : Keep h0 h1 [] := (Keep.refl h0 []).ext E1
  refine w_astoreN X #[.val (.ref a), .val (.int (0 : Int32)), .val (.int (3 : Int32)), .val (.ref b1), .unset, .unset] djdk_52_16_3 (rfl) rfl ?_
  refine w_aloadN X djdk_52_16_4 rfl (rfl) ?_
  refine w_iloadN X djdk_52_16_5 rfl ?_
  refine w_aloadN X djdk_52_16_6 rfl (rfl) ?_
  refine w_iconst X (0 : Int32) djdk_52_16_7 rfl ?_
  refine w_iloadN X djdk_52_16_8 rfl ?_
  have f2 := (Aa.ext E1)
  refine w_callS X djdk_52_16_9 (wd_25 hw) (wd_26 hw) (wd_22 hw) (wd_27 hw) (by decide) (argsL := [(.ref a), (.int (0 : Int32)), (.ref b1), (.int (0 : Int32)), (.int (3 : Int32))]) (S := []) (m_c5_3_0 hw f2 A1 gn1 (Nat.ne_of_lt (Nat.lt_of_lt_of_le Aa.lt (Nat.le_of_eq g1.symm)))  gk) pd_5 rfl rfl rfl (by decide) (Nat.le_of_ble_eq_true rfl) (by decide) (by decide) (fun T h2 v2 L2 X q2 => ?_)
  obtain ⟨rfl, Kc2⟩ := q2
  have K3 : Keep h0 h2 [] := K1.trans Kc2 (fun x hx => by cases List.mem_singleton.mp hx; exact (Or.inr sz_b1))
  show Wp p e below _ (T.setTop (mkF m 12 #[.val (.ref a), .val (.int (0 : Int32)), .val (.int (3 : Int32)), .val (.ref b1), .unset, .unset] [(.int (0 : Int32))]))
  refine w_istore X #[.val (.ref a), .val (.int (0 : Int32)), .val (.int (3 : Int32)), .val (.ref b1), .val (.int (0 : Int32)), .unset] djdk_52_16_12 rfl ?_
  refine w_iload X djdk_52_16_14 rfl ?_
  refine w_iloadN X djdk_52_16_16 rfl ?_
  refine w_icmpeq X djdk_52_16_17 (fun hc => absurd hc (by decide)) (fun _ => ?_)
  refine w_aloadN X djdk_52_16_20 rfl (rfl) ?_
  refine w_iloadN X djdk_52_16_21 rfl ?_
  refine w_iloadN X djdk_52_16_22 rfl ?_
  have f4 := (f2.keep Kc2 (by simp only [List.mem_cons, List.not_mem_nil, or_false]; exact (Nat.ne_of_lt (Nat.lt_of_lt_of_le Aa.lt (Nat.le_of_eq g1.symm)))))
  refine w_callS X djdk_52_16_23 (wd_101 hw) (wd_102 hw) (wd_22 hw) (wd_103 hw) (by decide) (argsL := [(.ref a), (.int (0 : Int32)), (.int (3 : Int32))]) (S := []) (m_tob16_3 hw hU f4) pd_6 rfl rfl rfl (by decide) (Nat.le_of_ble_eq_true rfl) (by decide) (by decide) (fun T h3 v3 L3 X q3 => ?_)
  obtain ⟨t3, rfl, gt3, gn3, At3, Kc3⟩ := q3
  have K5 : Keep h0 h3 [] := K3.trans Kc3 (fun x hx => nomatch hx)
  have sz_t3 : h0.size ≤ t3 := Nat.le_trans K3.1 gt3
  show Wp p e below _ (T.setTop (mkF m 26 #[.val (.ref a), .val (.int (0 : Int32)), .val (.int (3 : Int32)), .val (.ref b1), .val (.int (0 : Int32)), .unset] [(.ref t3)]))
  refine w_astore X #[.val (.ref a), .val (.int (0 : Int32)), .val (.int (3 : Int32)), .val (.ref b1), .val (.int (0 : Int32)), .val (.ref t3)] djdk_52_16_26 (rfl) rfl ?_
  refine w_aload X djdk_52_16_28 rfl (rfl) ?_
  refine w_iload X djdk_52_16_30 rfl ?_
  refine w_callS X djdk_52_16_32 (wd_117 hw) (wd_118 hw) (wd_22 hw) (wd_119 hw) (by decide) (argsL := [(.ref t3), (.int (0 : Int32))]) (S := []) (m_getc_3_0 hw (r := c0) hU At3 (own_utf nc0)) pd_11 rfl rfl rfl (by decide) (Nat.le_of_ble_eq_true rfl) (by decide) (by decide) (fun T h4 v4 L4 X q4 => ?_)
  obtain ⟨rfl, rfl⟩ := q4
  show Wp p e below _ (T.setTop (mkF m 35 #[.val (.ref a), .val (.int (0 : Int32)), .val (.int (3 : Int32)), .val (.ref b1), .val (.int (0 : Int32)), .val (.ref t3)] [(.int c0)]))
  refine w_sipush X (255 : Int32) djdk_52_16_35 rfl ?_
  refine w_icmpgt X djdk_52_16_38 (fun _ => ?_) (fun hc => absurd gk hc)
  refine w_aload X djdk_52_16_54 rfl (rfl) ?_
  exact w_retR X rfl (rfl) rfl djdk_52_16_56 ⟨_, rfl, sz_t3, gn3, At3, K5⟩ (by decide) (by decide)
set_option maxRecDepth 65536 in
set_option maxHeartbeats 40000000 in
theorem m_cfal16_3 {l : Launch} {Z : State} {a0 : Array Value} {n0 : Nat} (hw : ∀ d ∈ tables_1, d.before a0 Z = true) {h0 : Heap} {a : Addr} {v0 v1 v2 v3 v4 v5 : Value} (Aa : Ary Z h0 a .byte [v0, v1, v2, v3, v4, v5]) :
    Does l Z n0 ⟨"java/lang/StringUTF16", "coderFromArrayLen", "([BI)B"⟩ jdk_52_method_15_code 2 (some .byte) [] { frames := 0, cells := 0, slots := 0, locals := 0 } #[(.ref a), (.int (3 : Int32))] h0 (fun v h => v = some (.int (1 : Int32)) ∧ h0 = h) := by
  refine Does.start (plainFor_of_name pn_5) ?_
  intro p e s m below meth c T X
  replace X : Sd Z n0 0 jdk_52_method_15_code 2 "java/lang/StringUTF16" "coderFromArrayLen" (some .byte) h0 p l e { frames := 0, cells := 0, slots := 0, locals := 0 } s m #[(.ref a), (.int (3 : Int32))] below meth c T [] 0 0 := X
  refine Wp.cast (g' := mkF m 0 #[.val (.ref a), .val (.int (3 : Int32))] []) (by first | (simp [entryFrame, mkF, argsToLocals, Value.category, maxLocals]; done) | rfl) ?_
  refine w_iloadN X djdk_52_15_0 rfl ?_
  refine w_aloadN X djdk_52_15_1 rfl (rfl) ?_
  refine w_arrlen X (6 : Int32) djdk_52_15_2 Aa rfl ?_
  refine w_isub X djdk_52_15_3 ?_
  refine w_bipush X (31 : Int32) djdk_52_15_4 rfl ?_
  refine w_iushr X djdk_52_15_6 ?_
  refine w_i2b X djdk_52_15_7 ?_
  exact w_ret_byte X (1 : Int32) (by decide) djdk_52_15_8 ⟨rfl, rfl⟩ (by decide) (by decide)
set_option maxRecDepth 65536 in
set_option maxHeartbeats 40000000 in
theorem m_si4_3_0 {l : Launch} {Z : State} {a0 : Array Value} {n0 : Nat} (hw : ∀ d ∈ tables_1, d.before a0 Z = true) {h0 : Heap} {zc : Int32} {fm : Value} {a b : Addr} {c0 c1 c2 : Int32} (hU : own_U Z zc fm) (ga : n0 ≤ a) (Ea : Exa Z h0 a "java/lang/String") (Va : Fld Z h0 a "java/lang/String" "value" "[B" .null) (Ca : Fld Z h0 a "java/lang/String" "coder" "B" (.int (0 : Int32))) (Ab : Ary Z h0 b .char [(.int c0), (.int c1), (.int c2)]) (nc0 : nar .char c0 = c0) (nc1 : nar .char c1 = c1) (nc2 : nar .char c2 = c2)  (gk : (255 : Int32) < c0) :
    Does l Z n0 ⟨"java/lang/String", "<init>", "([CIILjava/lang/Void;)V"⟩ jdk_42_method_149_code 6 none [] { frames := 4, cells := 2, slots := 9, locals := 57 } #[(.ref a), (.ref b), (.int (0 : Int32)), (.int (3 : Int32)), .null] h0 (fun v h => v = none ∧ Keep h0 h [a] ∧ ∃ t, h0.size ≤ t ∧ n0 ≤ t ∧ Txt Z h a t [c0, c1, c2]) := by
  refine Does.start (plainFor_of_name pn_4) ?_
  obtain ⟨hS, S_ad, S_hi, S_lo⟩ := id hU
  obtain ⟨S_zc, hzc, S_fm, hfm⟩ := id hS
  intro p e s m below meth c T X
  replace X : Sd Z n0 0 jdk_42_method_149_code 6 "java/lang/String" "<init>" none h0 p l e { frames := 4, cells := 2, slots := 9, locals := 57 } s m #[(.ref a), (.ref b), (.int (0 : Int32)), (.int (3 : Int32)), .null] below meth c T [] 0 0 := X
  refine Wp.cast (g' := mkF m 0 #[.val (.ref a), .val (.ref b), .val (.int (0 : Int32)), .val (.int (3 : Int32)), .val .null, .unset] []) (by first | (simp [entryFrame, mkF, argsToLocals, Value.category, maxLocals]; done) | rfl) ?_
  refine w_aloadN X djdk_42_149_0 rfl (rfl) ?_
  refine w_initO X djdk_42_149_1 (wd_16 hw) (wd_17 hw) (wd_18 hw) rfl (by decide) (Nat.le_of_ble_eq_true rfl) (fun T X => ?_)
  refine w_iloadN X djdk_42_149_4 rfl ?_
  refine w_ifne X djdk_42_149_5 (fun _ => ?_) (fun hc => absurd hc (by decide))
  refine w_getS X djdk_42_149_27 (host := "") (Or.inl (wd_19 hw)) Via.refl (S_zc.ext X.old.2) (fun T X => ?_)
  refine w_ifeq X djdk_42_149_30 (fun hc => absurd hc hzc) (fun _ => ?_)
  refine w_aloadN X djdk_42_149_33 rfl (rfl) ?_
  refine w_iloadN X djdk_42_149_34 rfl ?_
  refine w_iloadN X djdk_42_149_35 rfl ?_
  refine w_callS X djdk_42_149_36 (wd_20 hw) (wd_21 hw) (wd_22 hw) (wd_23 hw) (by decide) (argsL := [(.ref b), (.int (0 : Int32)), (.int (3 : Int32))]) (S := []) (m_c3_3_0 hw hU Ab nc0 nc1 nc2  gk) pd_6 rfl rfl rfl (by decide) (Nat.le_of_ble_eq_true rfl) (by decide) (by decide) (fun T h1 v1 L1 X q1 => ?_)
  obtain ⟨t1, rfl, gt1, gn1, At1, Kc1⟩ := q1
  have K1 : Keep h0 h1 [a] := (Keep.refl h0 [a]).trans Kc1 (fun x hx => nomatch hx)
  have sz_t1 : h0.size ≤ t1 := Nat.le_trans (Keep.refl h0 [a]).1 gt1
  show Wp p e below _ (T.setTop (mkF m 39 #[.val (.ref a), .val (.ref b), .val (.int (0 : Int32)), .val (.int (3 : Int32)), .val .null, .unset] [(.ref t1)]))
  refine w_astore X #[.val (.ref a), .val (.ref b), .val (.int (0 : Int32)), .val (.int (3 : Int32)), .val .null, .val (.ref t1)] djdk_42_149_39 (rfl) rfl ?_
  refine w_aloadN X djdk_42_149_41 rfl (rfl) ?_
  refine w_aload X djdk_42_149_42 rfl (rfl) ?_
  refine w_iloadN X djdk_42_149_44 rfl ?_
  refine w_callS X djdk_42_149_45 (wd_28 hw) (wd_29 hw) (wd_22 hw) (wd_30 hw) (by decide) (argsL := [(.ref t1), (.int (3 : Int32))]) (S := [(.ref a)]) (m_cfal16_3 hw At1) pd_7 rfl rfl rfl (by decide) (Nat.le_of_ble_eq_true rfl) (by decide) (by decide) (fun T h2 v2 L2 X q2 => ?_)
  obtain ⟨rfl, rfl⟩ := q2
  show Wp p e below _ (T.setTop (mkF m 48 #[.val (.ref a), .val (.ref b), .val (.int (0 : Int32)), .val (.int (3 : Int32)), .val .null, .val (.ref t1)] [(.int (1 : Int32)), (.ref a)]))
  have f2 := (Ea.keep Kc1)
  have f3 := (Ca.keep Kc1 (List.not_mem_nil))
  refine w_putFN X djdk_42_149_48 (wd_31 hw) Via.refl f3 f2 (Or.inr ⟨(wd_32 hw), rfl, rfl⟩) (wd_6 hw) (ty := .byte) (by decide) (.int (1 : Int32)) rfl (by decide) ga (fun T h3 X W3 => ?_)
  have f4 := f3.same W3
  have K5 : Keep h0 h3 [a] := K1.wr W3 (Or.inl (List.mem_of_getElem? (i := 0) rfl))
  refine w_aloadN X djdk_42_149_51 rfl (rfl) ?_
  refine w_aload X djdk_42_149_52 rfl (rfl) ?_
  have f6 := (f2.wr W3)
  have f7 := ((Va.keep Kc1 (List.not_mem_nil)).other W3 (Or.inr (slot_ne (Or.inr (wd_34 hw)) (Or.inr (wd_32 hw)) (by decide) (t := (.array .byte)) (t' := .byte) (by decide) (by decide))))
  refine w_putF X djdk_42_149_54 (host := "") (Or.inl (wd_33 hw)) Via.refl f7 f6 (Or.inr ⟨(wd_34 hw), rfl, rfl⟩) (wd_6 hw) (ty := (.array .byte)) (by decide) rfl rfl ga (fun T h4 X W4 => ?_)
  have f8 := f7.same W4
  have K9 : Keep h0 h4 [a] := K5.wr W4 (Or.inl (List.mem_of_getElem? (i := 0) rfl))
  have f10 := (f6.wr W4)
  have f11 := (f4.other W4 (Or.inr (slot_ne (Or.inr (wd_32 hw)) (Or.inr (wd_34 hw)) (by decide) (t := .byte) (t' := (.array .byte)) (by decide) (by decide))))
  have f12 := ((At1.other W3 (Ne.symm (Nat.ne_of_lt (Nat.lt_of_lt_of_le Ea.lt gt1)))).other W4 (Ne.symm (Nat.ne_of_lt (Nat.lt_of_lt_of_le Ea.lt gt1))))
  exact w_retV X djdk_42_149_57 ⟨rfl, K9, _, sz_t1, gn1, f10, f8, Or.inr ⟨f11, f12⟩⟩ (by decide) (by decide)
set_option maxRecDepth 65536 in
set_option maxHeartbeats 40000000 in
theorem m_si_3_0 {l : Launch} {Z : State} {a0 : Array Value} {n0 : Nat} (hw : ∀ d ∈ tables_1, d.before a0 Z = true) {h0 : Heap} {zc : Int32} {fm : Value} {a b : Addr} {c0 c1 c2 : Int32} (hU : own_U Z zc fm) (ga : n0 ≤ a) (Ea : Exa Z h0 a "java/lang/String") (Va : Fld Z h0 a "java/lang/String" "value" "[B" .null) (Ca : Fld Z h0 a "java/lang/String" "coder" "B" (.int (0 : Int32))) (Ab : Ary Z h0 b .char [(.int c0), (.int c1), (.int c2)]) (nc0 : nar .char c0 = c0) (nc1 : nar .char c1 = c1) (nc2 : nar .char c2 = c2)  (gk : (255 : Int32) < c0) :
    Does l Z n0 ⟨"java/lang/String", "<init>", "([C)V"⟩ jdk_42_method_3_code 2 none [] { frames := 5, cells := 2, slots := 9, locals := 74 } #[(.ref a), (.ref b)] h0 (fun v h => v = none ∧ Keep h0 h [a] ∧ ∃ t, h0.size ≤ t ∧ n0 ≤ t ∧ Txt Z h a t [c0, c1, c2]) := by
  refine Does.start (plainFor_of_name pn_4) ?_
  obtain ⟨hS, S_ad, S_hi, S_lo⟩ := id hU
  obtain ⟨S_zc, hzc, S_fm, hfm⟩ := id hS
  intro p e s m below meth c T X
  replace X : Sd Z n0 0 jdk_42_method_3_code 2 "java/lang/String" "<init>" none h0 p l e { frames := 5, cells := 2, slots := 9, locals := 74 } s m #[(.ref a), (.ref b)] below meth c T [] 0 0 := X
  refine Wp.cast (g' := mkF m 0 #[.val (.ref a), .val (.ref b)] []) (by first | (simp [entryFrame, mkF, argsToLocals, Value.category, maxLocals]; done) | rfl) ?_
  refine w_aloadN X djdk_42_3_0 rfl (rfl) ?_
  refine w_aloadN X djdk_42_3_1 rfl (rfl) ?_
  refine w_iconst X (0 : Int32) djdk_42_3_2 rfl ?_
  refine w_aloadN X djdk_42_3_3 rfl (rfl) ?_
  refine w_arrlen X (3 : Int32) djdk_42_3_4 Ab rfl ?_
  refine w_aconstNull X djdk_42_3_5 ?_
  refine w_callI X djdk_42_3_6 rfl (wd_12 hw) (wd_13 hw) (wd_7 hw) (wd_15 hw) (by decide) (argsL := [(.ref b), (.int (0 : Int32)), (.int (3 : Int32)), .null]) (S := []) (m_si4_3_0 hw hU ga Ea Va Ca Ab nc0 nc1 nc2  gk) pd_3 rfl rfl rfl (by decide) (Nat.le_of_ble_eq_true rfl) (by decide) (by decide) (fun T h1 v1 L1 X q1 => ?_)
  obtain ⟨rfl, r1⟩ := q1
  show Wp p e below _ (T.setTop (mkF m 9 #[.val (.ref a), .val (.ref b)] []))
  exact w_retV X djdk_42_3_9 ⟨rfl, r1⟩ (by decide) (by decide)
set_option maxRecDepth 65536 in
set_option maxHeartbeats 40000000 in
theorem m_c5_3_1 {l : Launch} {Z : State} {a0 : Array Value} {n0 : Nat} (hw : ∀ d ∈ tables_1, d.before a0 Z = true) {h0 : Heap} {a b : Addr} {c0 c1 c2 : Int32} (Aa : Ary Z h0 a .char [(.int c0), (.int c1), (.int c2)]) (Ab : Ary Z h0 b .byte [(.int (0 : Int32)), (.int (0 : Int32)), (.int (0 : Int32))]) (gb : n0 ≤ b) (nab : a ≠ b) (l0 : ¬ (255 : Int32) < c0) (gk : (255 : Int32) < c1) :
    Does l Z n0 ⟨"java/lang/StringUTF16", "compress", "([CI[BII)I"⟩ jdk_52_method_21_code 7 (some .int) [] { frames := 0, cells := 0, slots := 0, locals := 0 } #[(.ref a), (.int (0 : Int32)), (.ref b), (.int (0 : Int32)), (.int (3 : Int32))] h0 (fun v h => v = some (.int (1 : Int32)) ∧ Keep h0 h [b]) := by
  refine Does.start (plainFor_of_name pn_5) ?_
  intro p e s m below meth c T X
  replace X : Sd Z n0 0 jdk_52_method_21_code 7 "java/lang/StringUTF16" "compress" (some .int) h0 p l e { frames := 0, cells := 0, slots := 0, locals := 0 } s m #[(.ref a), (.int (0 : Int32)), (.ref b), (.int (0 : Int32)), (.int (3 : Int32))] below meth c T [] 0 0 := X
  refine Wp.cast (g' := mkF m 0 #[.val (.ref a), .val (.int (0 : Int32)), .val (.ref b), .val (.int (0 : Int32)), .val (.int (3 : Int32)), .unset, .unset] []) (by first | (simp [entryFrame, mkF, argsToLocals, Value.category, maxLocals]; done) | rfl) ?_
  refine w_iconst X (0 : Int32) djdk_52_21_0 rfl ?_
  refine w_istore X #[.val (.ref a), .val (.int (0 : Int32)), .val (.ref b), .val (.int (0 : Int32)), .val (.int (3 : Int32)), .val (.int (0 : Int32)), .unset] djdk_52_21_1 rfl ?_
  refine w_iload X djdk_52_21_3 rfl ?_
  refine w_iload X djdk_52_21_5 rfl ?_
  refine w_icmpge X djdk_52_21_7 (fun hc => absurd (by decide) hc) (fun _ => ?_)
  refine w_aloadN X djdk_52_21_10 rfl (rfl) ?_
  refine w_iloadN X djdk_52_21_11 rfl ?_
  refine w_caload X djdk_52_21_12 Aa (by decide) rfl ?_
  refine w_istore X #[.val (.ref a), .val (.int (0 : Int32)), .val (.ref b), .val (.int (0 : Int32)), .val (.int (3 : Int32)), .val (.int (0 : Int32)), .val (.int c0)] djdk_52_21_13 rfl ?_
  refine w_iload X djdk_52_21_15 rfl ?_
  refine w_sipush X (255 : Int32) djdk_52_21_17 rfl ?_
  refine w_icmple X djdk_52_21_20 (fun _ => ?_) (fun hc => absurd hc l0)
  refine w_aloadN X djdk_52_21_26 rfl (rfl) ?_
  refine w_iloadN X djdk_52_21_27 rfl ?_
  refine w_iload X djdk_52_21_28 rfl ?_
  refine w_i2b X djdk_52_21_30 ?_
  refine w_bastore X djdk_52_21_31 Ab (by decide) rfl gb (.int (c0.toInt8.toInt32)) (congrArg Value.int (own_nar_b _)) [(.int (c0.toInt8.toInt32)), (.int (0 : Int32)), (.int (0 : Int32))] rfl (fun T h1 X W1 A1 => ?_)
  have K1 : Keep h0 h1 [b] := (Keep.refl h0 [b]).wr W1 (Or.inl (List.mem_of_getElem? (i := 0) rfl))
  refine w_iinc X (1 : Int32) #[.val (.ref a), .val (.int (1 : Int32)), .val (.ref b), .val (.int (0 : Int32)), .val (.int (3 : Int32)), .val (.int (0 : Int32)), .val (.int c0)] djdk_52_21_32 rfl rfl rfl ?_
  refine w_iinc X (1 : Int32) #[.val (.ref a), .val (.int (1 : Int32)), .val (.ref b), .val (.int (1 : Int32)), .val (.int (3 : Int32)), .val (.int (0 : Int32)), .val (.int c0)] djdk_52_21_35 rfl rfl rfl ?_
  refine w_iinc X (1 : Int32) #[.val (.ref a), .val (.int (1 : Int32)), .val (.ref b), .val (.int (1 : Int32)), .val (.int (3 : Int32)), .val (.int (1 : Int32)), .val (.int c0)] djdk_52_21_38 rfl rfl rfl ?_
  refine w_goto X djdk_52_21_41 ?_
  refine w_iload X djdk_52_21_3 rfl ?_
  refine w_iload X djdk_52_21_5 rfl ?_
  refine w_icmpge X djdk_52_21_7 (fun hc => absurd (by decide) hc) (fun _ => ?_)
  refine w_aloadN X djdk_52_21_10 rfl (rfl) ?_
  refine w_iloadN X djdk_52_21_11 rfl ?_
  have f2 := (Aa.other W1 nab)
  refine w_caload X djdk_52_21_12 f2 (by decide) rfl ?_
  refine w_istore X #[.val (.ref a), .val (.int (1 : Int32)), .val (.ref b), .val (.int (1 : Int32)), .val (.int (3 : Int32)), .val (.int (1 : Int32)), .val (.int c1)] djdk_52_21_13 rfl ?_
  refine w_iload X djdk_52_21_15 rfl ?_
  refine w_sipush X (255 : Int32) djdk_52_21_17 rfl ?_
  refine w_icmple X djdk_52_21_20 (fun hc => absurd gk hc) (fun _ => ?_)
  refine w_iload X djdk_52_21_23 rfl ?_
  exact w_retI X djdk_52_21_25 ⟨rfl, K1⟩ (by decide) (by decide)
set_option maxRecDepth 65536 in
set_option maxHeartbeats 40000000 in
theorem m_getc_3_1 {l : Launch} {Z : State} {a0 : Array Value} {n0 : Nat} (hw : ∀ d ∈ tables_1, d.before a0 Z = true) {h0 : Heap} {zc : Int32} {fm : Value} {a : Addr} {r x0 x1 x2 x3 x4 x5 : Int32} (hU : own_U Z zc fm) (Aa : Ary Z h0 a .byte [(.int x0), (.int x1), (.int x2), (.int x3), (.int x4), (.int x5)]) (hr : (((x2 &&& (255 : Int32)) <<< ((0 : Int32) &&& 31)) ||| ((x3 &&& (255 : Int32)) <<< ((8 : Int32) &&& 31))).toUInt32.toUInt16.toUInt32.toInt32 = r) :
    Does l Z n0 ⟨"java/lang/StringUTF16", "getChar", "([BI)C"⟩ jdk_52_method_5_code 2 (some .char) [] { frames := 0, cells := 0, slots := 0, locals := 0 } #[(.ref a), (.int (1 : Int32))] h0 (fun v h => v = some (.int r) ∧ h0 = h) := by
  refine Does.start (plainFor_of_name pn_5) ?_
  obtain ⟨hS, S_ad, S_hi, S_lo⟩ := id hU
  obtain ⟨S_zc, hzc, S_fm, hfm⟩ := id hS
  intro p e s m below meth c T X
  replace X : Sd Z n0 0 jdk_52_method_5_code 2 "java/lang/StringUTF16" "getChar" (some .char) h0 p l e { frames := 0, cells := 0, slots := 0, locals := 0 } s m #[(.ref a), (.int (1 : Int32))] below meth c T [] 0 0 := X
  refine Wp.cast (g' := mkF m 0 #[.val (.ref a), .val (.int (1 : Int32))] []) (by first | (simp [entryFrame, mkF, argsToLocals, Value.category, maxLocals]; done) | rfl) ?_
  refine w_getS X djdk_52_5_0 (host := "") (Or.inl (wd_114 hw)) Via.refl (S_ad.ext X.old.2) (fun T X => ?_)
  refine w_ifne X djdk_52_5_3 (fun _ => ?_) (fun hc => absurd hc (by decide))
  refine w_iloadN X djdk_52_5_28 rfl ?_
  refine w_iconst X (1 : Int32) djdk_52_5_29 rfl ?_
  refine w_ishl X djdk_52_5_30 ?_
  refine w_istoreN X #[.val (.ref a), .val (.int (2 : Int32))] djdk_52_5_31 rfl ?_
  refine w_aloadN X djdk_52_5_32 rfl (rfl) ?_
  refine w_iloadN X djdk_52_5_33 rfl ?_
  refine w_iinc X (1 : Int32) #[.val (.ref a), .val (.int (3 : Int32))] djdk_52_5_34 rfl rfl rfl ?_
  refine w_baload X djdk_52_5_37 Aa (by decide) rfl ?_
  refine w_sipush X (255 : Int32) djdk_52_5_38 rfl ?_
  refine w_iand X djdk_52_5_41 ?_
  refine w_getS X djdk_52_5_42 (host := "") (Or.inl (wd_115 hw)) Via.refl (S_hi.ext X.old.2) (fun T X => ?_)
  refine w_ishl X djdk_52_5_45 ?_
  refine w_aloadN X djdk_52_5_46 rfl (rfl) ?_
  refine w_iloadN X djdk_52_5_47 rfl ?_
  refine w_baload X djdk_52_5_48 Aa (by decide) rfl ?_
  refine w_sipush X (255 : Int32) djdk_52_5_49 rfl ?_
  refine w_iand X djdk_52_5_52 ?_
  refine w_getS X djdk_52_5_53 (host := "") (Or.inl (wd_116 hw)) Via.refl (S_lo.ext X.old.2) (fun T X => ?_)
  refine w_ishl X djdk_52_5_56 ?_
  refine w_ior X djdk_52_5_57 ?_
  refine w_i2c X djdk_52_5_58 ?_
  exact w_ret_char X ((((x2 &&& (255 : Int32)) <<< ((0 : Int32) &&& 31)) ||| ((x3 &&& (255 : Int32)) <<< ((8 : Int32) &&& 31))).toUInt32.toUInt16.toUInt32.toInt32) (own_nar_c _) djdk_52_5_59 ⟨by rw [hr], rfl⟩ (by decide) (by decide)
set_option maxRecDepth 65536 in
set_option maxHeartbeats 40000000 in
theorem m_c3_3_1 {l : Launch} {Z : State} {a0 : Array Value} {n0 : Nat} (hw : ∀ d ∈ tables_1, d.before a0 Z = true) {h0 : Heap} {zc : Int32} {fm : Value} {a : Addr} {c0 c1 c2 : Int32} (hU : own_U Z zc fm) (Aa : Ary Z h0 a .char [(.int c0), (.int c1), (.int c2)]) (nc0 : nar .char c0 = c0) (nc1 : nar .char c1 = c1) (nc2 : nar .char c2 = c2) (l0 : ¬ (255 : Int32) < c0) (gk : (255 : Int32) < c1) :
    Does l Z n0 ⟨"java/lang/StringUTF16", "compress", "([CII)[B"⟩ jdk_52_method_16_code 6 (some (.array .byte)) [] { frames := 3, cells := 2, slots := 9, locals := 40 } #[(.ref a), (.int (0 : Int32)), (.int (3 : Int32))] h0 (fun v h => ∃ t, v = some (.ref t) ∧ h0.size ≤ t ∧ n0 ≤ t ∧ Ary Z h t .byte [(.int ((c0 >>> ((0 : Int32) &&& 31)).toInt8.toInt32)), (.int ((c0 >>> ((8 : Int32) &&& 31)).toInt8.toInt32)), (.int ((c1 >>> ((0 : Int32) &&& 31)).toInt8.toInt32)), (.int ((c1 >>> ((8 : Int32) &&& 31)).toInt8.toInt32)), (.int ((c2 >>> ((0 : Int32) &&& 31)).toInt8.toInt32)), (.int ((c2 >>> ((8 : Int32) &&& 31)).toInt8.toInt32))] ∧ Keep h0 h []) := by
  refine Does.start (plainFor_of_name pn_5) ?_
  obtain ⟨hS, S_ad, S_hi, S_lo⟩ := id hU
  obtain ⟨S_zc, hzc, S_fm, hfm⟩ := id hS
  intro p e s m below meth c T X
  replace X : Sd Z n0 0 jdk_52_method_16_code 6 "java/lang/StringUTF16" "compress" (some (.array .byte)) h0 p l e { frames := 3, cells := 2, slots := 9, locals := 40 } s m #[(.ref a), (.int (0 : Int32)), (.int (3 : Int32))] below meth c T [] 0 0 := X
  refine Wp.cast (g' := mkF m 0 #[.val (.ref a), .val (.int (0 : Int32)), .val (.int (3 : Int32)), .unset, .unset, .unset] []) (by first | (simp [entryFrame, mkF, argsToLocals, Value.category, maxLocals]; done) | rfl) ?_
  refine w_iloadN X djdk_52_16_0 rfl ?_
  refine w_newarr X djdk_52_16_1 (wd_24 hw) 3 3 (by decide) (by decide) (by decide) (by decide) (by decide) (by decide) (fun T h1 b1 g1 gn1 X E1 A1 => ?_)
  replace A1 : Ary Z h1 b1 .byte [(.int (0 : Int32)), (.int (0 : Int32)), (.int (0 : Int32))] := A1
  have sz_b1 : h0.size ≤ b1 := Nat.le_trans (Keep.refl h0 []).1 (Nat.le_of_eq g1.symm)
  have K1 : Keep h0 h1 [] := (Keep.refl h0 []).ext E1
  refine w_astoreN X #[.val (.ref a), .val (.int (0 : Int32)), .val (.int (3 : Int32)), .val (.ref b1), .unset, .unset] djdk_52_16_3 (rfl) rfl ?_
  refine w_aloadN X djdk_52_16_4 rfl (rfl) ?_
  refine w_iloadN X djdk_52_16_5 rfl ?_
  refine w_aloadN X djdk_52_16_6 rfl (rfl) ?_
  refine w_iconst X (0 : Int32) djdk_52_16_7 rfl ?_
  refine w_iloadN X djdk_52_16_8 rfl ?_
  have f2 := (Aa.ext E1)
  refine w_callS X djdk_52_16_9 (wd_25 hw) (wd_26 hw) (wd_22 hw) (wd_27 hw) (by decide) (argsL := [(.ref a), (.int (0 : Int32)), (.ref b1), (.int (0 : Int32)), (.int (3 : Int32))]) (S := []) (m_c5_3_1 hw f2 A1 gn1 (Nat.ne_of_lt (Nat.lt_of_lt_of_le Aa.lt (Nat.le_of_eq g1.symm))) l0 gk) pd_5 rfl rfl rfl (by decide) (Nat.le_of_ble_eq_true rfl) (by decide) (by decide) (fun T h2 v2 L2 X q2 => ?_)
  obtain ⟨rfl, Kc2⟩ := q2
  have K3 : Keep h0 h2 [] := K1.trans Kc2 (fun x hx => by cases List.mem_singleton.mp hx; exact (Or.inr sz_b1))
  show Wp p e below _ (T.setTop (mkF m 12 #[.val (.ref a), .val (.int (0 : Int32)), .val (.int (3 : Int32)), .val (.ref b1), .unset, .unset] [(.int (1 : Int32))]))
  refine w_istore X #[.val (.ref a), .val (.int (0 : Int32)), .val (.int (3 : Int32)), .val (.ref b1), .val (.int (1 : Int32)), .unset] djdk_52_16_12 rfl ?_
  refine w_iload X djdk_52_16_14 rfl ?_
  refine w_iloadN X djdk_52_16_16 rfl ?_
  refine w_icmpeq X djdk_52_16_17 (fun hc => absurd hc (by decide)) (fun _ => ?_)
  refine w_aloadN X djdk_52_16_20 rfl (rfl) ?_
  refine w_iloadN X djdk_52_16_21 rfl ?_
  refine w_iloadN X djdk_52_16_22 rfl ?_
  have f4 := (f2.keep Kc2 (by simp only [List.mem_cons, List.not_mem_nil, or_false]; exact (Nat.ne_of_lt (Nat.lt_of_lt_of_le Aa.lt (Nat.le_of_eq g1.symm)))))
  refine w_callS X djdk_52_16_23 (wd_101 hw) (wd_102 hw) (wd_22 hw) (wd_103 hw) (by decide) (argsL := [(.ref a), (.int (0 : Int32)), (.int (3 : Int32))]) (S := []) (m_tob16_3 hw hU f4) pd_6 rfl rfl rfl (by decide) (Nat.le_of_ble_eq_true rfl) (by decide) (by decide) (fun T h3 v3 L3 X q3 => ?_)
  obtain ⟨t3, rfl, gt3, gn3, At3, Kc3⟩ := q3
  have K5 : Keep h0 h3 [] := K3.trans Kc3 (fun x hx => nomatch hx)
  have sz_t3 : h0.size ≤ t3 := Nat.le_trans K3.1 gt3
  show Wp p e below _ (T.setTop (mkF m 26 #[.val (.ref a), .val (.int (0 : Int32)), .val (.int (3 : Int32)), .val (.ref b1), .val (.int (1 : Int32)), .unset] [(.ref t3)]))
  refine w_astore X #[.val (.ref a), .val (.int (0 : Int32)), .val (.int (3 : Int32)), .val (.ref b1), .val (.int (1 : Int32)), .val (.ref t3)] djdk_52_16_26 (rfl) rfl ?_
  refine w_aload X djdk_52_16_28 rfl (rfl) ?_
  refine w_iload X djdk_52_16_30 rfl ?_
  refine w_callS X djdk_52_16_32 (wd_117 hw) (wd_118 hw) (wd_22 hw) (wd_119 hw) (by decide) (argsL := [(.ref t3), (.int (1 : Int32))]) (S := []) (m_getc_3_1 hw (r := c1) hU At3 (own_utf nc1)) pd_11 rfl rfl rfl (by decide) (Nat.le_of_ble_eq_true rfl) (by decide) (by decide) (fun T h4 v4 L4 X q4 => ?_)
  obtain ⟨rfl, rfl⟩ := q4
  show Wp p e below _ (T.setTop (mkF m 35 #[.val (.ref a), .val (.int (0 : Int32)), .val (.int (3 : Int32)), .val (.ref b1), .val (.int (1 : Int32)), .val (.ref t3)] [(.int c1)]))
  refine w_sipush X (255 : Int32) djdk_52_16_35 rfl ?_
  refine w_icmpgt X djdk_52_16_38 (fun _ => ?_) (fun hc => absurd gk hc)
  refine w_aload X djdk_52_16_54 rfl (rfl) ?_
  exact w_retR X rfl (rfl) rfl djdk_52_16_56 ⟨_, rfl, sz_t3, gn3, At3, K5⟩ (by decide) (by decide)
set_option maxRecDepth 65536 in
set_option maxHeartbeats 40000000 in
theorem m_si4_3_1 {l : Launch} {Z : State} {a0 : Array Value} {n0 : Nat} (hw : ∀ d ∈ tables_1, d.before a0 Z = true) {h0 : Heap} {zc : Int32} {fm : Value} {a b : Addr} {c0 c1 c2 : Int32} (hU : own_U Z zc fm) (ga : n0 ≤ a) (Ea : Exa Z h0 a "java/lang/String") (Va : Fld Z h0 a "java/lang/String" "value" "[B" .null) (Ca : Fld Z h0 a "java/lang/String" "coder" "B" (.int (0 : Int32))) (Ab : Ary Z h0 b .char [(.int c0), (.int c1), (.int c2)]) (nc0 : nar .char c0 = c0) (nc1 : nar .char c1 = c1) (nc2 : nar .char c2 = c2) (l0 : ¬ (255 : Int32) < c0) (gk : (255 : Int32) < c1) :
    Does l Z n0 ⟨"java/lang/String", "<init>", "([CIILjava/lang/Void;)V"⟩ jdk_42_method_149_code 6 none [] { frames := 4, cells := 2, slots := 9, locals := 57 } #[(.ref a), (.ref b), (.int (0 : Int32)), (.int (3 : Int32)), .null] h0 (fun v h => v = none ∧ Keep h0 h [a] ∧ ∃ t, h0.size ≤ t ∧ n0 ≤ t ∧ Txt Z h a t [c0, c1, c2]) := by
  refine Does.start (plainFor_of_name pn_4) ?_
  obtain ⟨hS, S_ad, S_hi, S_lo⟩ := id hU
  obtain ⟨S_zc, hzc, S_fm, hfm⟩ := id hS
  intro p e s m below meth c T X
  replace X : Sd Z n0 0 jdk_42_method_149_code 6 "java/lang/String" "<init>" none h0 p l e { frames := 4, cells := 2, slots := 9, locals := 57 } s m #[(.ref a), (.ref b), (.int (0 : Int32)), (.int (3 : Int32)), .null] below meth c T [] 0 0 := X
  refine Wp.cast (g' := mkF m 0 #[.val (.ref a), .val (.ref b), .val (.int (0 : Int32)), .val (.int (3 : Int32)), .val .null, .unset] []) (by first | (simp [entryFrame, mkF, argsToLocals, Value.category, maxLocals]; done) | rfl) ?_
  refine w_aloadN X djdk_42_149_0 rfl (rfl) ?_
  refine w_initO X djdk_42_149_1 (wd_16 hw) (wd_17 hw) (wd_18 hw) rfl (by decide) (Nat.le_of_ble_eq_true rfl) (fun T X => ?_)
  refine w_iloadN X djdk_42_149_4 rfl ?_
  refine w_ifne X djdk_42_149_5 (fun _ => ?_) (fun hc => absurd hc (by decide))
  refine w_getS X djdk_42_149_27 (host := "") (Or.inl (wd_19 hw)) Via.refl (S_zc.ext X.old.2) (fun T X => ?_)
  refine w_ifeq X djdk_42_149_30 (fun hc => absurd hc hzc) (fun _ => ?_)
  refine w_aloadN X djdk_42_149_33 rfl (rfl) ?_
  refine w_iloadN X djdk_42_149_34 rfl ?_
  refine w_iloadN X djdk_42_149_35 rfl ?_
  refine w_callS X djdk_42_149_36 (wd_20 hw) (wd_21 hw) (wd_22 hw) (wd_23 hw) (by decide) (argsL := [(.ref b), (.int (0 : Int32)), (.int (3 : Int32))]) (S := []) (m_c3_3_1 hw hU Ab nc0 nc1 nc2 l0 gk) pd_6 rfl rfl rfl (by decide) (Nat.le_of_ble_eq_true rfl) (by decide) (by decide) (fun T h1 v1 L1 X q1 => ?_)
  obtain ⟨t1, rfl, gt1, gn1, At1, Kc1⟩ := q1
  have K1 : Keep h0 h1 [a] := (Keep.refl h0 [a]).trans Kc1 (fun x hx => nomatch hx)
  have sz_t1 : h0.size ≤ t1 := Nat.le_trans (Keep.refl h0 [a]).1 gt1
  show Wp p e below _ (T.setTop (mkF m 39 #[.val (.ref a), .val (.ref b), .val (.int (0 : Int32)), .val (.int (3 : Int32)), .val .null, .unset] [(.ref t1)]))
  refine w_astore X #[.val (.ref a), .val (.ref b), .val (.int (0 : Int32)), .val (.int (3 : Int32)), .val .null, .val (.ref t1)] djdk_42_149_39 (rfl) rfl ?_
  refine w_aloadN X djdk_42_149_41 rfl (rfl) ?_
  refine w_aload X djdk_42_149_42 rfl (rfl) ?_
  refine w_iloadN X djdk_42_149_44 rfl ?_
  refine w_callS X djdk_42_149_45 (wd_28 hw) (wd_29 hw) (wd_22 hw) (wd_30 hw) (by decide) (argsL := [(.ref t1), (.int (3 : Int32))]) (S := [(.ref a)]) (m_cfal16_3 hw At1) pd_7 rfl rfl rfl (by decide) (Nat.le_of_ble_eq_true rfl) (by decide) (by decide) (fun T h2 v2 L2 X q2 => ?_)
  obtain ⟨rfl, rfl⟩ := q2
  show Wp p e below _ (T.setTop (mkF m 48 #[.val (.ref a), .val (.ref b), .val (.int (0 : Int32)), .val (.int (3 : Int32)), .val .null, .val (.ref t1)] [(.int (1 : Int32)), (.ref a)]))
  have f2 := (Ea.keep Kc1)
  have f3 := (Ca.keep Kc1 (List.not_mem_nil))
  refine w_putFN X djdk_42_149_48 (wd_31 hw) Via.refl f3 f2 (Or.inr ⟨(wd_32 hw), rfl, rfl⟩) (wd_6 hw) (ty := .byte) (by decide) (.int (1 : Int32)) rfl (by decide) ga (fun T h3 X W3 => ?_)
  have f4 := f3.same W3
  have K5 : Keep h0 h3 [a] := K1.wr W3 (Or.inl (List.mem_of_getElem? (i := 0) rfl))
  refine w_aloadN X djdk_42_149_51 rfl (rfl) ?_
  refine w_aload X djdk_42_149_52 rfl (rfl) ?_
  have f6 := (f2.wr W3)
  have f7 := ((Va.keep Kc1 (List.not_mem_nil)).other W3 (Or.inr (slot_ne (Or.inr (wd_34 hw)) (Or.inr (wd_32 hw)) (by decide) (t := (.array .byte)) (t' := .byte) (by decide) (by decide))))
  refine w_putF X djdk_42_149_54 (host := "") (Or.inl (wd_33 hw)) Via.refl f7 f6 (Or.inr ⟨(wd_34 hw), rfl, rfl⟩) (wd_6 hw) (ty := (.array .byte)) (by decide) rfl rfl ga (fun T h4 X W4 => ?_)
  have f8 := f7.same W4
  have K9 : Keep h0 h4 [a] := K5.wr W4 (Or.inl (List.mem_of_getElem? (i := 0) rfl))
  have f10 := (f6.wr W4)
  have f11 := (f4.other W4 (Or.inr (slot_ne (Or.inr (wd_32 hw)) (Or.inr (wd_34 hw)) (by decide) (t := .byte) (t' := (.array .byte)) (by decide) (by decide))))
  have f12 := ((At1.other W3 (Ne.symm (Nat.ne_of_lt (Nat.lt_of_lt_of_le Ea.lt gt1)))).other W4 (Ne.symm (Nat.ne_of_lt (Nat.lt_of_lt_of_le Ea.lt gt1))))
  exact w_retV X djdk_42_149_57 ⟨rfl, K9, _, sz_t1, gn1, f10, f8, Or.inr ⟨f11, f12⟩⟩ (by decide) (by decide)
set_option maxRecDepth 65536 in
set_option maxHeartbeats 40000000 in
theorem m_si_3_1 {l : Launch} {Z : State} {a0 : Array Value} {n0 : Nat} (hw : ∀ d ∈ tables_1, d.before a0 Z = true) {h0 : Heap} {zc : Int32} {fm : Value} {a b : Addr} {c0 c1 c2 : Int32} (hU : own_U Z zc fm) (ga : n0 ≤ a) (Ea : Exa Z h0 a "java/lang/String") (Va : Fld Z h0 a "java/lang/String" "value" "[B" .null) (Ca : Fld Z h0 a "java/lang/String" "coder" "B" (.int (0 : Int32))) (Ab : Ary Z h0 b .char [(.int c0), (.int c1), (.int c2)]) (nc0 : nar .char c0 = c0) (nc1 : nar .char c1 = c1) (nc2 : nar .char c2 = c2) (l0 : ¬ (255 : Int32) < c0) (gk : (255 : Int32) < c1) :
    Does l Z n0 ⟨"java/lang/String", "<init>", "([C)V"⟩ jdk_42_method_3_code 2 none [] { frames := 5, cells := 2, slots := 9, locals := 74 } #[(.ref a), (.ref b)] h0 (fun v h => v = none ∧ Keep h0 h [a] ∧ ∃ t, h0.size ≤ t ∧ n0 ≤ t ∧ Txt Z h a t [c0, c1, c2]) := by
  refine Does.start (plainFor_of_name pn_4) ?_
  obtain ⟨hS, S_ad, S_hi, S_lo⟩ := id hU
  obtain ⟨S_zc, hzc, S_fm, hfm⟩ := id hS
  intro p e s m below meth c T X
  replace X : Sd Z n0 0 jdk_42_method_3_code 2 "java/lang/String" "<init>" none h0 p l e { frames := 5, cells := 2, slots := 9, locals := 74 } s m #[(.ref a), (.ref b)] below meth c T [] 0 0 := X
  refine Wp.cast (g' := mkF m 0 #[.val (.ref a), .val (.ref b)] []) (by first | (simp [entryFrame, mkF, argsToLocals, Value.category, maxLocals]; done) | rfl) ?_
  refine w_aloadN X djdk_42_3_0 rfl (rfl) ?_
  refine w_aloadN X djdk_42_3_1 rfl (rfl) ?_
  refine w_iconst X (0 : Int32) djdk_42_3_2 rfl ?_
  refine w_aloadN X djdk_42_3_3 rfl (rfl) ?_
  refine w_arrlen X (3 : Int32) djdk_42_3_4 Ab rfl ?_
  refine w_aconstNull X djdk_42_3_5 ?_
  refine w_callI X djdk_42_3_6 rfl (wd_12 hw) (wd_13 hw) (wd_7 hw) (wd_15 hw) (by decide) (argsL := [(.ref b), (.int (0 : Int32)), (.int (3 : Int32)), .null]) (S := []) (m_si4_3_1 hw hU ga Ea Va Ca Ab nc0 nc1 nc2 l0 gk) pd_3 rfl rfl rfl (by decide) (Nat.le_of_ble_eq_true rfl) (by decide) (by decide) (fun T h1 v1 L1 X q1 => ?_)
  obtain ⟨rfl, r1⟩ := q1
  show Wp p e below _ (T.setTop (mkF m 9 #[.val (.ref a), .val (.ref b)] []))
  exact w_retV X djdk_42_3_9 ⟨rfl, r1⟩ (by decide) (by decide)
set_option maxRecDepth 65536 in
set_option maxHeartbeats 40000000 in
theorem m_c5_3_2 {l : Launch} {Z : State} {a0 : Array Value} {n0 : Nat} (hw : ∀ d ∈ tables_1, d.before a0 Z = true) {h0 : Heap} {a b : Addr} {c0 c1 c2 : Int32} (Aa : Ary Z h0 a .char [(.int c0), (.int c1), (.int c2)]) (Ab : Ary Z h0 b .byte [(.int (0 : Int32)), (.int (0 : Int32)), (.int (0 : Int32))]) (gb : n0 ≤ b) (nab : a ≠ b) (l0 : ¬ (255 : Int32) < c0) (l1 : ¬ (255 : Int32) < c1) (gk : (255 : Int32) < c2) :
    Does l Z n0 ⟨"java/lang/StringUTF16", "compress", "([CI[BII)I"⟩ jdk_52_method_21_code 7 (some .int) [] { frames := 0, cells := 0, slots := 0, locals := 0 } #[(.ref a), (.int (0 : Int32)), (.ref b), (.int (0 : Int32)), (.int (3 : Int32))] h0 (fun v h => v = some (.int (2 : Int32)) ∧ Keep h0 h [b]) := by
  refine Does.start (plainFor_of_name pn_5) ?_
  intro p e s m below meth c T X
  replace X : Sd Z n0 0 jdk_52_method_21_code 7 "java/lang/StringUTF16" "compress" (some .int) h0 p l e { frames := 0, cells := 0, slots := 0, locals := 0 } s m #[(.ref a), (.int (0 : Int32)), (.ref b), (.int (0 : Int32)), (.int (3 : Int32))] below meth c T [] 0 0 := X
  refine Wp.cast (g' := mkF m 0 #[.val (.ref a), .val (.int (0 : Int32)), .val (.ref b), .val (.int (0 : Int32)), .val (.int (3 : Int32)), .unset, .unset] []) (by first | (simp [entryFrame, mkF, argsToLocals, Value.category, maxLocals]; done) | rfl) ?_
  refine w_iconst X (0 : Int32) djdk_52_21_0 rfl ?_
  refine w_istore X #[.val (.ref a), .val (.int (0 : Int32)), .val (.ref b), .val (.int (0 : Int32)), .val (.int (3 : Int32)), .val (.int (0 : Int32)), .unset] djdk_52_21_1 rfl ?_
  refine w_iload X djdk_52_21_3 rfl ?_
  refine w_iload X djdk_52_21_5 rfl ?_
  refine w_icmpge X djdk_52_21_7 (fun hc => absurd (by decide) hc) (fun _ => ?_)
  refine w_aloadN X djdk_52_21_10 rfl (rfl) ?_
  refine w_iloadN X djdk_52_21_11 rfl ?_
  refine w_caload X djdk_52_21_12 Aa (by decide) rfl ?_
  refine w_istore X #[.val (.ref a), .val (.int (0 : Int32)), .val (.ref b), .val (.int (0 : Int32)), .val (.int (3 : Int32)), .val (.int (0 : Int32)), .val (.int c0)] djdk_52_21_13 rfl ?_
  refine w_iload X djdk_52_21_15 rfl ?_
  refine w_sipush X (255 : Int32) djdk_52_21_17 rfl ?_
  refine w_icmple X djdk_52_21_20 (fun _ => ?_) (fun hc => absurd hc l0)
  refine w_aloadN X djdk_52_21_26 rfl (rfl) ?_
  refine w_iloadN X djdk_52_21_27 rfl ?_
  refine w_iload X djdk_52_21_28 rfl ?_
  refine w_i2b X djdk_52_21_30 ?_
  refine w_bastore X djdk_52_21_31 Ab (by decide) rfl gb (.int (c0.toInt8.toInt32)) (congrArg Value.int (own_nar_b _)) [(.int (c0.toInt8.toInt32)), (.int (0 : Int32)), (.int (0 : Int32))] rfl (fun T h1 X W1 A1 => ?_)
  have K1 : Keep h0 h1 [b] := (Keep.refl h0 [b]).wr W1 (Or.inl (List.mem_of_getElem? (i := 0) rfl))
  refine w_iinc X (1 : Int32) #[.val (.ref a), .val (.int (1 : Int32)), .val (.ref b), .val (.int (0 : Int32)), .val (.int (3 : Int32)), .val (.int (0 : Int32)), .val (.int c0)] djdk_52_21_32 rfl rfl rfl ?_
  refine w_iinc X (1 : Int32) #[.val (.ref a), .val (.int (1 : Int32)), .val (.ref b), .val (.int (1 : Int32)), .val (.int (3 : Int32)), .val (.int (0 : Int32)), .val (.int c0)] djdk_52_21_35 rfl rfl rfl ?_
  refine w_iinc X (1 : Int32) #[.val (.ref a), .val (.int (1 : Int32)), .val (.ref b), .val (.int (1 : Int32)), .val (.int (3 : Int32)), .val (.int (1 : Int32)), .val (.int c0)] djdk_52_21_38 rfl rfl rfl ?_
  refine w_goto X djdk_52_21_41 ?_
  refine w_iload X djdk_52_21_3 rfl ?_
  refine w_iload X djdk_52_21_5 rfl ?_
  refine w_icmpge X djdk_52_21_7 (fun hc => absurd (by decide) hc) (fun _ => ?_)
  refine w_aloadN X djdk_52_21_10 rfl (rfl) ?_
  refine w_iloadN X djdk_52_21_11 rfl ?_
  have f2 := (Aa.other W1 nab)
  refine w_caload X djdk_52_21_12 f2 (by decide) rfl ?_
  refine w_istore X #[.val (.ref a), .val (.int (1 : Int32)), .val (.ref b), .val (.int (1 : Int32)), .val (.int (3 : Int32)), .val (.int (1 : Int32)), .val (.int c1)] djdk_52_21_13 rfl ?_
  refine w_iload X djdk_52_21_15 rfl ?_
  refine w_sipush X (255 : Int32) djdk_52_21_17 rfl ?_
  refine w_icmple X djdk_52_21_20 (fun _ => ?_) (fun hc => absurd hc l1)
  refine w_aloadN X djdk_52_21_26 rfl (rfl) ?_
  refine w_iloadN X djdk_52_21_27 rfl ?_
  refine w_iload X djdk_52_21_28 rfl ?_
  refine w_i2b X djdk_52_21_30 ?_
  refine w_bastore X djdk_52_21_31 A1 (by decide) rfl gb (.int (c1.toInt8.toInt32)) (congrArg Value.int (own_nar_b _)) [(.int (c0.toInt8.toInt32)), (.int (c1.toInt8.toInt32)), (.int (0 : Int32))] rfl (fun T h2 X W2 A2 => ?_)
  have K3 : Keep h0 h2 [b] := K1.wr W2 (Or.inl (List.mem_of_getElem? (i := 0) rfl))
  refine w_iinc X (1 : Int32) #[.val (.ref a), .val (.int (2 : Int32)), .val (.ref b), .val (.int (1 : Int32)), .val (.int (3 : Int32)), .val (.int (1 : Int32)), .val (.int c1)] djdk_52_21_32 rfl rfl rfl ?_
  refine w_iinc X (1 : Int32) #[.val (.ref a), .val (.int (2 : Int32)), .val (.ref b), .val (.int (2 : Int32)), .val (.int (3 : Int32)), .val (.int (1 : Int32)), .val (.int c1)] djdk_52_21_35 rfl rfl rfl ?_
  refine w_iinc X (1 : Int32) #[.val (.ref a), .val (.int (2 : Int32)), .val (.ref b), .val (.int (2 : Int32)), .val (.int (3 : Int32)), .val (.int (2 : Int32)), .val (.int c1)] djdk_52_21_38 rfl rfl rfl ?_
  refine w_goto X djdk_52_21_41 ?_
  refine w_iload X djdk_52_21_3 rfl ?_
  refine w_iload X djdk_52_21_5 rfl ?_
  refine w_icmpge X djdk_52_21_7 (fun hc => absurd (by decide) hc) (fun _ => ?_)
  refine w_aloadN X djdk_52_21_10 rfl (rfl) ?_
  refine w_iloadN X djdk_52_21_11 rfl ?_
  have f4 := (f2.other W2 nab)
  refine w_caload X djdk_52_21_12 f4 (by decide) rfl ?_
  refine w_istore X #[.val (.ref a), .val (.int (2 : Int32)), .val (.ref b), .val (.int (2 : Int32)), .val (.int (3 : Int32)), .val (.int (2 : Int32)), .val (.int c2)] djdk_52_21_13 rfl ?_
  refine w_iload X djdk_52_21_15 rfl ?_
  refine w_sipush X (255 : Int32) djdk_52_21_17 rfl ?_
  refine w_icmple X djdk_52_21_20 (fun hc => absurd gk hc) (fun _ => ?_)
  refine w_iload X djdk_52_21_23 rfl ?_
  exact w_retI X djdk_52_21_25 ⟨rfl, K3⟩ (by decide) (by decide)
set_option maxRecDepth 65536 in
set_option maxHeartbeats 40000000 in
theorem m_getc_3_2 {l : Launch} {Z : State} {a0 : Array Value} {n0 : Nat} (hw : ∀ d ∈ tables_1, d.before a0 Z = true) {h0 : Heap} {zc : Int32} {fm : Value} {a : Addr} {r x0 x1 x2 x3 x4 x5 : Int32} (hU : own_U Z zc fm) (Aa : Ary Z h0 a .byte [(.int x0), (.int x1), (.int x2), (.int x3), (.int x4), (.int x5)]) (hr : (((x4 &&& (255 : Int32)) <<< ((0 : Int32) &&& 31)) ||| ((x5 &&& (255 : Int32)) <<< ((8 : Int32) &&& 31))).toUInt32.toUInt16.toUInt32.toInt32 = r) :
    Does l Z n0 ⟨"java/lang/StringUTF16", "getChar", "([BI)C"⟩ jdk_52_method_5_code 2 (some .char) [] { frames := 0, cells := 0, slots := 0, locals := 0 } #[(.ref a), (.int (2 : Int32))] h0 (fun v h => v = some (.int r) ∧ h0 = h) := by
  refine Does.start (plainFor_of_name pn_5) ?_
  obtain ⟨hS, S_ad, S_hi, S_lo⟩ := id hU
  obtain ⟨S_zc, hzc, S_fm, hfm⟩ := id hS
  intro p e s m below meth c T X
  replace X : Sd Z n0 0 jdk_52_method_5_code 2 "java/lang/StringUTF16" "getChar" (some .char) h0 p l e { frames := 0, cells := 0, slots := 0, locals := 0 } s m #[(.ref a), (.int (2 : Int32))] below meth c T [] 0 0 := X
  refine Wp.cast (g' := mkF m 0 #[.val (.ref a), .val (.int (2 : Int32))] []) (by first | (simp [entryFrame, mkF, argsToLocals, Value.category, maxLocals]; done) | rfl) ?_
  refine w_getS X djdk_52_5_0 (host := "") (Or.inl (wd_114 hw)) Via.refl (S_ad.ext X.old.2) (fun T X => ?_)
  refine w_ifne X djdk_52_5_3 (fun _ => ?_) (fun hc => absurd hc (by decide))
  refine w_iloadN X djdk_52_5_28 rfl ?_
  refine w_iconst X (1 : Int32) djdk_52_5_29 rfl ?_
  refine w_ishl X djdk_52_5_30 ?_
  refine w_istoreN X #[.val (.ref a), .val (.int (4 : Int32))] djdk_52_5_31 rfl ?_
  refine w_aloadN X djdk_52_5_32 rfl (rfl) ?_
  refine w_iloadN X djdk_52_5_33 rfl ?_
  refine w_iinc X (1 : Int32) #[.val (.ref a), .val (.int (5 : Int32))] djdk_52_5_34 rfl rfl rfl ?_
  refine w_baload X djdk_52_5_37 Aa (by decide) rfl ?_
  refine w_sipush X (255 : Int32) djdk_52_5_38 rfl ?_
  refine w_iand X djdk_52_5_41 ?_
  refine w_getS X djdk_52_5_42 (host := "") (Or.inl (wd_115 hw)) Via.refl (S_hi.ext X.old.2) (fun T X => ?_)
  refine w_ishl X djdk_52_5_45 ?_
  refine w_aloadN X djdk_52_5_46 rfl (rfl) ?_
  refine w_iloadN X djdk_52_5_47 rfl ?_
  refine w_baload X djdk_52_5_48 Aa (by decide) rfl ?_
  refine w_sipush X (255 : Int32) djdk_52_5_49 rfl ?_
  refine w_iand X djdk_52_5_52 ?_
  refine w_getS X djdk_52_5_53 (host := "") (Or.inl (wd_116 hw)) Via.refl (S_lo.ext X.old.2) (fun T X => ?_)
  refine w_ishl X djdk_52_5_56 ?_
  refine w_ior X djdk_52_5_57 ?_
  refine w_i2c X djdk_52_5_58 ?_
  exact w_ret_char X ((((x4 &&& (255 : Int32)) <<< ((0 : Int32) &&& 31)) ||| ((x5 &&& (255 : Int32)) <<< ((8 : Int32) &&& 31))).toUInt32.toUInt16.toUInt32.toInt32) (own_nar_c _) djdk_52_5_59 ⟨by rw [hr], rfl⟩ (by decide) (by decide)
set_option maxRecDepth 65536 in
set_option maxHeartbeats 40000000 in
theorem m_c3_3_2 {l : Launch} {Z : State} {a0 : Array Value} {n0 : Nat} (hw : ∀ d ∈ tables_1, d.before a0 Z = true) {h0 : Heap} {zc : Int32} {fm : Value} {a : Addr} {c0 c1 c2 : Int32} (hU : own_U Z zc fm) (Aa : Ary Z h0 a .char [(.int c0), (.int c1), (.int c2)]) (nc0 : nar .char c0 = c0) (nc1 : nar .char c1 = c1) (nc2 : nar .char c2 = c2) (l0 : ¬ (255 : Int32) < c0) (l1 : ¬ (255 : Int32) < c1) (gk : (255 : Int32) < c2) :
    Does l Z n0 ⟨"java/lang/StringUTF16", "compress", "([CII)[B"⟩ jdk_52_method_16_code 6 (some (.array .byte)) [] { frames := 3, cells := 2, slots := 9, locals := 40 } #[(.ref a), (.int (0 : Int32)), (.int (3 : Int32))] h0 (fun v h => ∃ t, v = some (.ref t) ∧ h0.size ≤ t ∧ n0 ≤ t ∧ Ary Z h t .byte [(.int ((c0 >>> ((0 : Int32) &&& 31)).toInt8.toInt32)), (.int ((c0 >>> ((8 : Int32) &&& 31)).toInt8.toInt32)), (.int ((c1 >>> ((0 : Int32) &&& 31)).toInt8.toInt32)), (.int ((c1 >>> ((8 : Int32) &&& 31)).toInt8.toInt32)), (.int ((c2 >>> ((0 : Int32) &&& 31)).toInt8.toInt32)), (.int ((c2 >>> ((8 : Int32) &&& 31)).toInt8.toInt32))] ∧ Keep h0 h []) := by
  refine Does.start (plainFor_of_name pn_5) ?_
  obtain ⟨hS, S_ad, S_hi, S_lo⟩ := id hU
  obtain ⟨S_zc, hzc, S_fm, hfm⟩ := id hS
  intro p e s m below meth c T X
  replace X : Sd Z n0 0 jdk_52_method_16_code 6 "java/lang/StringUTF16" "compress" (some (.array .byte)) h0 p l e { frames := 3, cells := 2, slots := 9, locals := 40 } s m #[(.ref a), (.int (0 : Int32)), (.int (3 : Int32))] below meth c T [] 0 0 := X
  refine Wp.cast (g' := mkF m 0 #[.val (.ref a), .val (.int (0 : Int32)), .val (.int (3 : Int32)), .unset, .unset, .unset] []) (by first | (simp [entryFrame, mkF, argsToLocals, Value.category, maxLocals]; done) | rfl) ?_
  refine w_iloadN X djdk_52_16_0 rfl ?_
  refine w_newarr X djdk_52_16_1 (wd_24 hw) 3 3 (by decide) (by decide) (by decide) (by decide) (by decide) (by decide) (fun T h1 b1 g1 gn1 X E1 A1 => ?_)
  replace A1 : Ary Z h1 b1 .byte [(.int (0 : Int32)), (.int (0 : Int32)), (.int (0 : Int32))] := A1
  have sz_b1 : h0.size ≤ b1 := Nat.le_trans (Keep.refl h0 []).1 (Nat.le_of_eq g1.symm)
  have K1 : Keep h0 h1 [] := (Keep.refl h0 []).ext E1
  refine w_astoreN X #[.val (.ref a), .val (.int (0 : Int32)), .val (.int (3 : Int32)), .val (.ref b1), .unset, .unset] djdk_52_16_3 (rfl) rfl ?_
  refine w_aloadN X djdk_52_16_4 rfl (rfl) ?_
  refine w_iloadN X djdk_52_16_5 rfl ?_
  refine w_aloadN X djdk_52_16_6 rfl (rfl) ?_
  refine w_iconst X (0 : Int32) djdk_52_16_7 rfl ?_
  refine w_iloadN X djdk_52_16_8 rfl ?_
  have f2 := (Aa.ext E1)
  refine w_callS X djdk_52_16_9 (wd_25 hw) (wd_26 hw) (wd_22 hw) (wd_27 hw) (by decide) (argsL := [(.ref a), (.int (0 : Int32)), (.ref b1), (.int (0 : Int32)), (.int (3 : Int32))]) (S := []) (m_c5_3_2 hw f2 A1 gn1 (Nat.ne_of_lt (Nat.lt_of_lt_of_le Aa.lt (Nat.le_of_eq g1.symm))) l0 l1 gk) pd_5 rfl rfl rfl (by decide) (Nat.le_of_ble_eq_true rfl) (by decide) (by decide) (fun T h2 v2 L2 X q2 => ?_)
  obtain ⟨rfl, Kc2⟩ := q2
  have K3 : Keep h0 h2 [] := K1.trans Kc2 (fun x hx => by cases List.mem_singleton.mp hx; exact (Or.inr sz_b1))
  show Wp p e below _ (T.setTop (mkF m 12 #[.val (.ref a), .val (.int (0 : Int32)), .val (.int (3 : Int32)), .val (.ref b1), .unset, .unset] [(.int (2 : Int32))]))
  refine w_istore X #[.val (.ref a), .val (.int (0 : Int32)), .val (.int (3 : Int32)), .val (.ref b1), .val (.int (2 : Int32)), .unset] djdk_52_16_12 rfl ?_
  refine w_iload X djdk_52_16_14 rfl ?_
  refine w_iloadN X djdk_52_16_16 rfl ?_
  refine w_icmpeq X djdk_52_16_17 (fun hc => absurd hc (by decide)) (fun _ => ?_)
  refine w_aloadN X djdk_52_16_20 rfl (rfl) ?_
  refine w_iloadN X djdk_52_16_21 rfl ?_
  refine w_iloadN X djdk_52_16_22 rfl ?_
  have f4 := (f2.keep Kc2 (by simp only [List.mem_cons, List.not_mem_nil, or_false]; exact (Nat.ne_of_lt (Nat.lt_of_lt_of_le Aa.lt (Nat.le_of_eq g1.symm)))))
  refine w_callS X djdk_52_16_23 (wd_101 hw) (wd_102 hw) (wd_22 hw) (wd_103 hw) (by decide) (argsL := [(.ref a), (.int (0 : Int32)), (.int (3 : Int32))]) (S := []) (m_tob16_3 hw hU f4) pd_6 rfl rfl rfl (by decide) (Nat.le_of_ble_eq_true rfl) (by decide) (by decide) (fun T h3 v3 L3 X q3 => ?_)
  obtain ⟨t3, rfl, gt3, gn3, At3, Kc3⟩ := q3
  have K5 : Keep h0 h3 [] := K3.trans Kc3 (fun x hx => nomatch hx)
  have sz_t3 : h0.size ≤ t3 := Nat.le_trans K3.1 gt3
  show Wp p e below _ (T.setTop (mkF m 26 #[.val (.ref a), .val (.int (0 : Int32)), .val (.int (3 : Int32)), .val (.ref b1), .val (.int (2 : Int32)), .unset] [(.ref t3)]))
  refine w_astore X #[.val (.ref a), .val (.int (0 : Int32)), .val (.int (3 : Int32)), .val (.ref b1), .val (.int (2 : Int32)), .val (.ref t3)] djdk_52_16_26 (rfl) rfl ?_
  refine w_aload X djdk_52_16_28 rfl (rfl) ?_
  refine w_iload X djdk_52_16_30 rfl ?_
  refine w_callS X djdk_52_16_32 (wd_117 hw) (wd_118 hw) (wd_22 hw) (wd_119 hw) (by decide) (argsL := [(.ref t3), (.int (2 : Int32))]) (S := []) (m_getc_3_2 hw (r := c2) hU At3 (own_utf nc2)) pd_11 rfl rfl rfl (by decide) (Nat.le_of_ble_eq_true rfl) (by decide) (by decide) (fun T h4 v4 L4 X q4 => ?_)
  obtain ⟨rfl, rfl⟩ := q4
  show Wp p e below _ (T.setTop (mkF m 35 #[.val (.ref a), .val (.int (0 : Int32)), .val (.int (3 : Int32)), .val (.ref b1), .val (.int (2 : Int32)), .val (.ref t3)] [(.int c2)]))
  refine w_sipush X (255 : Int32) djdk_52_16_35 rfl ?_
  refine w_icmpgt X djdk_52_16_38 (fun _ => ?_) (fun hc => absurd gk hc)
  refine w_aload X djdk_52_16_54 rfl (rfl) ?_
  exact w_retR X rfl (rfl) rfl djdk_52_16_56 ⟨_, rfl, sz_t3, gn3, At3, K5⟩ (by decide) (by decide)
set_option maxRecDepth 65536 in
set_option maxHeartbeats 40000000 in
theorem m_si4_3_2 {l : Launch} {Z : State} {a0 : Array Value} {n0 : Nat} (hw : ∀ d ∈ tables_1, d.before a0 Z = true) {h0 : Heap} {zc : Int32} {fm : Value} {a b : Addr} {c0 c1 c2 : Int32} (hU : own_U Z zc fm) (ga : n0 ≤ a) (Ea : Exa Z h0 a "java/lang/String") (Va : Fld Z h0 a "java/lang/String" "value" "[B" .null) (Ca : Fld Z h0 a "java/lang/String" "coder" "B" (.int (0 : Int32))) (Ab : Ary Z h0 b .char [(.int c0), (.int c1), (.int c2)]) (nc0 : nar .char c0 = c0) (nc1 : nar .char c1 = c1) (nc2 : nar .char c2 = c2) (l0 : ¬ (255 : Int32) < c0) (l1 : ¬ (255 : Int32) < c1) (gk : (255 : Int32) < c2) :
    Does l Z n0 ⟨"java/lang/String", "<init>", "([CIILjava/lang/Void;)V"⟩ jdk_42_method_149_code 6 none [] { frames := 4, cells := 2, slots := 9, locals := 57 } #[(.ref a), (.ref b), (.int (0 : Int32)), (.int (3 : Int32)), .null] h0 (fun v h => v = none ∧ Keep h0 h [a] ∧ ∃ t, h0.size ≤ t ∧ n0 ≤ t ∧ Txt Z h a t [c0, c1, c2]) := by
  refine Does.start (plainFor_of_name pn_4) ?_
  obtain ⟨hS, S_ad, S_hi, S_lo⟩ := id hU
  obtain ⟨S_zc, hzc, S_fm, hfm⟩ := id hS
  intro p e s m below meth c T X
  replace X : Sd Z n0 0 jdk_42_method_149_code 6 "java/lang/String" "<init>" none h0 p l e { frames := 4, cells := 2, slots := 9, locals := 57 } s m #[(.ref a), (.ref b), (.int (0 : Int32)), (.int (3 : Int32)), .null] below meth c T [] 0 0 := X
  refine Wp.cast (g' := mkF m 0 #[.val (.ref a), .val (.ref b), .val (.int (0 : Int32)), .val (.int (3 : Int32)), .val .null, .unset] []) (by first | (simp [entryFrame, mkF, argsToLocals, Value.category, maxLocals]; done) | rfl) ?_
  refine w_aloadN X djdk_42_149_0 rfl (rfl) ?_
  refine w_initO X djdk_42_149_1 (wd_16 hw) (wd_17 hw) (wd_18 hw) rfl (by decide) (Nat.le_of_ble_eq_true rfl) (fun T X => ?_)
  refine w_iloadN X djdk_42_149_4 rfl ?_
  refine w_ifne X djdk_42_149_5 (fun _ => ?_) (fun hc => absurd hc (by decide))
  refine w_getS X djdk_42_149_27 (host := "") (Or.inl (wd_19 hw)) Via.refl (S_zc.ext X.old.2) (fun T X => ?_)
  refine w_ifeq X djdk_42_149_30 (fun hc => absurd hc hzc) (fun _ => ?_)
  refine w_aloadN X djdk_42_149_33 rfl (rfl) ?_
  refine w_iloadN X djdk_42_149_34 rfl ?_
  refine w_iloadN X djdk_42_149_35 rfl ?_
  refine w_callS X djdk_42_149_36 (wd_20 hw) (wd_21 hw) (wd_22 hw) (wd_23 hw) (by decide) (argsL := [(.ref b), (.int (0 : Int32)), (.int (3 : Int32))]) (S := []) (m_c3_3_2 hw hU Ab nc0 nc1 nc2 l0 l1 gk) pd_6 rfl rfl rfl (by decide) (Nat.le_of_ble_eq_true rfl) (by decide) (by decide) (fun T h1 v1 L1 X q1 => ?_)
  obtain ⟨t1, rfl, gt1, gn1, At1, Kc1⟩ := q1
  have K1 : Keep h0 h1 [a] := (Keep.refl h0 [a]).trans Kc1 (fun x hx => nomatch hx)
  have sz_t1 : h0.size ≤ t1 := Nat.le_trans (Keep.refl h0 [a]).1 gt1
  show Wp p e below _ (T.setTop (mkF m 39 #[.val (.ref a), .val (.ref b), .val (.int (0 : Int32)), .val (.int (3 : Int32)), .val .null, .unset] [(.ref t1)]))
  refine w_astore X #[.val (.ref a), .val (.ref b), .val (.int (0 : Int32)), .val (.int (3 : Int32)), .val .null, .val (.ref t1)] djdk_42_149_39 (rfl) rfl ?_
  refine w_aloadN X djdk_42_149_41 rfl (rfl) ?_
  refine w_aload X djdk_42_149_42 rfl (rfl) ?_
  refine w_iloadN X djdk_42_149_44 rfl ?_
  refine w_callS X djdk_42_149_45 (wd_28 hw) (wd_29 hw) (wd_22 hw) (wd_30 hw) (by decide) (argsL := [(.ref t1), (.int (3 : Int32))]) (S := [(.ref a)]) (m_cfal16_3 hw At1) pd_7 rfl rfl rfl (by decide) (Nat.le_of_ble_eq_true rfl) (by decide) (by decide) (fun T h2 v2 L2 X q2 => ?_)
  obtain ⟨rfl, rfl⟩ := q2
  show Wp p e below _ (T.setTop (mkF m 48 #[.val (.ref a), .val (.ref b), .val (.int (0 : Int32)), .val (.int (3 : Int32)), .val .null, .val (.ref t1)] [(.int (1 : Int32)), (.ref a)]))
  have f2 := (Ea.keep Kc1)
  have f3 := (Ca.keep Kc1 (List.not_mem_nil))
  refine w_putFN X djdk_42_149_48 (wd_31 hw) Via.refl f3 f2 (Or.inr ⟨(wd_32 hw), rfl, rfl⟩) (wd_6 hw) (ty := .byte) (by decide) (.int (1 : Int32)) rfl (by decide) ga (fun T h3 X W3 => ?_)
  have f4 := f3.same W3
  have K5 : Keep h0 h3 [a] := K1.wr W3 (Or.inl (List.mem_of_getElem? (i := 0) rfl))
  refine w_aloadN X djdk_42_149_51 rfl (rfl) ?_
  refine w_aload X djdk_42_149_52 rfl (rfl) ?_
  have f6 := (f2.wr W3)
  have f7 := ((Va.keep Kc1 (List.not_mem_nil)).other W3 (Or.inr (slot_ne (Or.inr (wd_34 hw)) (Or.inr (wd_32 hw)) (by decide) (t := (.array .byte)) (t' := .byte) (by decide) (by decide))))
  refine w_putF X djdk_42_149_54 (host := "") (Or.inl (wd_33 hw)) Via.refl f7 f6 (Or.inr ⟨(wd_34 hw), rfl, rfl⟩) (wd_6 hw) (ty := (.array .byte)) (by decide) rfl rfl ga (fun T h4 X W4 => ?_)
  have f8 := f7.same W4
  have K9 : Keep h0 h4 [a] := K5.wr W4 (Or.inl (List.mem_of_getElem? (i := 0) rfl))
  have f10 := (f6.wr W4)
  have f11 := (f4.other W4 (Or.inr (slot_ne (Or.inr (wd_32 hw)) (Or.inr (wd_34 hw)) (by decide) (t := .byte) (t' := (.array .byte)) (by decide) (by decide))))
  have f12 := ((At1.other W3 (Ne.symm (Nat.ne_of_lt (Nat.lt_of_lt_of_le Ea.lt gt1)))).other W4 (Ne.symm (Nat.ne_of_lt (Nat.lt_of_lt_of_le Ea.lt gt1))))
  exact w_retV X djdk_42_149_57 ⟨rfl, K9, _, sz_t1, gn1, f10, f8, Or.inr ⟨f11, f12⟩⟩ (by decide) (by decide)
set_option maxRecDepth 65536 in
set_option maxHeartbeats 40000000 in
theorem m_si_3_2 {l : Launch} {Z : State} {a0 : Array Value} {n0 : Nat} (hw : ∀ d ∈ tables_1, d.before a0 Z = true) {h0 : Heap} {zc : Int32} {fm : Value} {a b : Addr} {c0 c1 c2 : Int32} (hU : own_U Z zc fm) (ga : n0 ≤ a) (Ea : Exa Z h0 a "java/lang/String") (Va : Fld Z h0 a "java/lang/String" "value" "[B" .null) (Ca : Fld Z h0 a "java/lang/String" "coder" "B" (.int (0 : Int32))) (Ab : Ary Z h0 b .char [(.int c0), (.int c1), (.int c2)]) (nc0 : nar .char c0 = c0) (nc1 : nar .char c1 = c1) (nc2 : nar .char c2 = c2) (l0 : ¬ (255 : Int32) < c0) (l1 : ¬ (255 : Int32) < c1) (gk : (255 : Int32) < c2) :
    Does l Z n0 ⟨"java/lang/String", "<init>", "([C)V"⟩ jdk_42_method_3_code 2 none [] { frames := 5, cells := 2, slots := 9, locals := 74 } #[(.ref a), (.ref b)] h0 (fun v h => v = none ∧ Keep h0 h [a] ∧ ∃ t, h0.size ≤ t ∧ n0 ≤ t ∧ Txt Z h a t [c0, c1, c2]) := by
  refine Does.start (plainFor_of_name pn_4) ?_
  obtain ⟨hS, S_ad, S_hi, S_lo⟩ := id hU
  obtain ⟨S_zc, hzc, S_fm, hfm⟩ := id hS
  intro p e s m below meth c T X
  replace X : Sd Z n0 0 jdk_42_method_3_code 2 "java/lang/String" "<init>" none h0 p l e { frames := 5, cells := 2, slots := 9, locals := 74 } s m #[(.ref a), (.ref b)] below meth c T [] 0 0 := X
  refine Wp.cast (g' := mkF m 0 #[.val (.ref a), .val (.ref b)] []) (by first | (simp [entryFrame, mkF, argsToLocals, Value.category, maxLocals]; done) | rfl) ?_
  refine w_aloadN X djdk_42_3_0 rfl (rfl) ?_
  refine w_aloadN X djdk_42_3_1 rfl (rfl) ?_
  refine w_iconst X (0 : Int32) djdk_42_3_2 rfl ?_
  refine w_aloadN X djdk_42_3_3 rfl (rfl) ?_
  refine w_arrlen X (3 : Int32) djdk_42_3_4 Ab rfl ?_
  refine w_aconstNull X djdk_42_3_5 ?_
  refine w_callI X djdk_42_3_6 rfl (wd_12 hw) (wd_13 hw) (wd_7 hw) (wd_15 hw) (by decide) (argsL := [(.ref b), (.int (0 : Int32)), (.int (3 : Int32)), .null]) (S := []) (m_si4_3_2 hw hU ga Ea Va Ca Ab nc0 nc1 nc2 l0 l1 gk) pd_3 rfl rfl rfl (by decide) (Nat.le_of_ble_eq_true rfl) (by decide) (by decide) (fun T h1 v1 L1 X q1 => ?_)
  obtain ⟨rfl, r1⟩ := q1
  show Wp p e below _ (T.setTop (mkF m 9 #[.val (.ref a), .val (.ref b)] []))
  exact w_retV X djdk_42_3_9 ⟨rfl, r1⟩ (by decide) (by decide)
theorem m_tsi_3 {l : Launch} {Z : State} {a0 : Array Value} {n0 : Nat} (hw : ∀ d ∈ tables_1, d.before a0 Z = true) {h0 : Heap} {zc : Int32} {fm : Value} {a b : Addr} {c0 c1 c2 : Int32} (hU : own_U Z zc fm) (ga : n0 ≤ a) (Ea : Exa Z h0 a "java/lang/String") (Va : Fld Z h0 a "java/lang/String" "value" "[B" .null) (Ca : Fld Z h0 a "java/lang/String" "coder" "B" (.int (0 : Int32))) (Ab : Ary Z h0 b .char [(.int c0), (.int c1), (.int c2)]) (nc0 : nar .char c0 = c0) (nc1 : nar .char c1 = c1) (nc2 : nar .char c2 = c2) :
    Does l Z n0 ⟨"java/lang/String", "<init>", "([C)V"⟩ jdk_42_method_3_code 2 none [] { frames := 5, cells := 2, slots := 9, locals := 74 } #[.ref a, .ref b] h0 (fun v h => v = none ∧ Keep h0 h [a] ∧ ∃ t, h0.size ≤ t ∧ n0 ≤ t ∧ Txt Z h a t [c0, c1, c2]) := by
  by_cases l0 : (255 : Int32) < c0
  · exact m_si_3_0 hw hU ga Ea Va Ca Ab nc0 nc1 nc2  l0
  by_cases l1 : (255 : Int32) < c1
  · exact m_si_3_1 hw hU ga Ea Va Ca Ab nc0 nc1 nc2 l0 l1
  by_cases l2 : (255 : Int32) < c2
  · exact m_si_3_2 hw hU ga Ea Va Ca Ab nc0 nc1 nc2 l0 l1 l2
  refine (m_si_3 hw hU.1 ga Ea Va Ca Ab l0 l1 l2).mono fun v h q => ?_
  obtain ⟨q1, q2, q3, q4, t, q5, q6, q7, q8⟩ := q
  refine ⟨q1, q4, t, q5, q6, q2, q7, Or.inl ⟨q3, q8, fun c hc => ?_⟩⟩
  simp only [List.mem_cons, List.not_mem_nil, or_false] at hc
  rcases hc with rfl | rfl | rfl <;> assumption
set_option maxRecDepth 65536 in
set_option maxHeartbeats 40000000 in
theorem m_str_3 {l : Launch} {Z : State} {a0 : Array Value} {n0 : Nat} (hw : ∀ d ∈ tables_1, d.before a0 Z = true) {h0 : Heap} {zc : Int32} {fm : Value} {x c0 c1 c2 : Int32} (hU : own_U Z zc fm) (hheld : Jvm.Lit.constHeld Z "java/lang/String" 7) (hcw : Jvm.Lit.compactW.before a0 Z = true) (hx : x = (3 : Int32)) (nc0 : nar .char c0 = c0) (nc1 : nar .char c1 = c1) (nc2 : nar .char c2 = c2) :
    DoesG l Z n0 (Em Z h0) ⟨"com/example/whole_session/wholesession/RunCompareUtf8PinLaw", "str", "(ICCC)Ljava/lang/String;"⟩ method_3_code 4 (some (.object "java/lang/String")) [] { frames := 6, cells := 4, slots := 16, locals := 88 } #[(.int x), (.int c0), (.int c1), (.int c2)] h0 (fun v h vm => ∃ a t, v = some (.ref a) ∧ Txt Z h a t [c0, c1, c2] ∧ Keep h0 h [] ∧ Em Z h vm) := by
  refine DoesG.start (plainFor_of_name pn_1) ?_
  obtain ⟨hS, S_ad, S_hi, S_lo⟩ := id hU
  obtain ⟨S_zc, hzc, S_fm, hfm⟩ := id hS
  intro p e s m below meth c T X Y hs0 Gs
  replace X : Sd Z n0 0 method_3_code 4 "com/example/whole_session/wholesession/RunCompareUtf8PinLaw" "str" (some (.object "java/lang/String")) h0 p l e { frames := 6, cells := 4, slots := 16, locals := 88 } (s.setVm s.vm) m #[(.int x), (.int c0), (.int c1), (.int c2)] below meth c T [] 0 0 := X
  refine Wp.cast (g' := mkF m 0 #[.val (.int x), .val (.int c0), .val (.int c1), .val (.int c2)] []) (by first | (simp [entryFrame, mkF, argsToLocals, Value.category, maxLocals]; done) | rfl) ?_
  refine w_iloadN X d3_0 rfl ?_
  refine w_ifne X d3_1 (fun _ => ?_) (fun hc => absurd hc (by rw [hx]; decide))
  refine w_iloadN X d3_15 rfl ?_
  refine w_iconst X (1 : Int32) d3_16 rfl ?_
  refine w_icmpne X d3_17 (fun _ => ?_) (fun hc => absurd hc (by rw [hx]; decide))
  refine w_iloadN X d3_35 rfl ?_
  refine w_iconst X (2 : Int32) d3_36 rfl ?_
  refine w_icmpne X d3_37 (fun _ => ?_) (fun hc => absurd hc (by rw [hx]; decide))
  refine w_new X d3_59 (wd_5 hw) (wd_6 hw) (wd_7 hw) (by decide) (by decide) (fun T h1 b1 g1 gn1 X E1 A1 D1 => ?_)
  have sz_b1 : h0.size ≤ b1 := Nat.le_trans (Keep.refl h0 []).1 (Nat.le_of_eq g1.symm)
  have K1 : Keep h0 h1 [] := (Keep.refl h0 []).ext E1
  refine w_dup X d3_62 rfl ?_
  refine w_iconst X (3 : Int32) d3_63 rfl ?_
  refine w_newarr X d3_64 (wd_8 hw) 3 3 (by decide) (by decide) (by decide) (by decide) (by decide) (by decide) (fun T h2 b2 g2 gn2 X E2 A2 => ?_)
  replace A2 : Ary Z h2 b2 .char [(.int (0 : Int32)), (.int (0 : Int32)), (.int (0 : Int32))] := A2
  have sz_b2 : h0.size ≤ b2 := Nat.le_trans K1.1 (Nat.le_of_eq g2.symm)
  have K2 : Keep h0 h2 [] := K1.ext E2
  refine w_dup X d3_66 rfl ?_
  refine w_iconst X (0 : Int32) d3_67 rfl ?_
  refine w_iloadN X d3_68 rfl ?_
  refine w_castore X d3_69 A2 (by decide) rfl gn2 (.int c0) (congrArg Value.int nc0) [(.int c0), (.int (0 : Int32)), (.int (0 : Int32))] rfl (fun T h3 X W3 A3 => ?_)
  have K3 : Keep h0 h3 [] := K2.wr W3 (Or.inr sz_b2)
  refine w_dup X d3_70 rfl ?_
  refine w_iconst X (1 : Int32) d3_71 rfl ?_
  refine w_iloadN X d3_72 rfl ?_
  refine w_castore X d3_73 A3 (by decide) rfl gn2 (.int c1) (congrArg Value.int nc1) [(.int c0), (.int c1), (.int (0 : Int32))] rfl (fun T h4 X W4 A4 => ?_)
  have K4 : Keep h0 h4 [] := K3.wr W4 (Or.inr sz_b2)
  refine w_dup X d3_74 rfl ?_
  refine w_iconst X (2 : Int32) d3_75 rfl ?_
  refine w_iloadN X d3_76 rfl ?_
  refine w_castore X d3_77 A4 (by decide) rfl gn2 (.int c2) (congrArg Value.int nc2) [(.int c0), (.int c1), (.int c2)] rfl (fun T h5 X W5 A5 => ?_)
  have K5 : Keep h0 h5 [] := K4.wr W5 (Or.inr sz_b2)
  have f6 := ((((A1.ext E2).wr W3).wr W4).wr W5)
  have f7 := (((((show Fld Z h1 b1 "java/lang/String" "value" "[B" .null from D1 (Or.inr (wd_34 hw)) (ty := (.array .byte)) (by decide)).ext E2).other W3 (Or.inl (Nat.ne_of_lt (Nat.lt_of_lt_of_le A1.lt (Nat.le_of_eq g2.symm))))).other W4 (Or.inl (Nat.ne_of_lt (Nat.lt_of_lt_of_le A1.lt (Nat.le_of_eq g2.symm))))).other W5 (Or.inl (Nat.ne_of_lt (Nat.lt_of_lt_of_le A1.lt (Nat.le_of_eq g2.symm)))))
  have f8 := (((((show Fld Z h1 b1 "java/lang/String" "coder" "B" (.int (0 : Int32)) from D1 (Or.inr (wd_32 hw)) (ty := .byte) (by decide)).ext E2).other W3 (Or.inl (Nat.ne_of_lt (Nat.lt_of_lt_of_le A1.lt (Nat.le_of_eq g2.symm))))).other W4 (Or.inl (Nat.ne_of_lt (Nat.lt_of_lt_of_le A1.lt (Nat.le_of_eq g2.symm))))).other W5 (Or.inl (Nat.ne_of_lt (Nat.lt_of_lt_of_le A1.lt (Nat.le_of_eq g2.symm)))))
  refine w_callI X d3_78 rfl (wd_9 hw) (wd_10 hw) (wd_7 hw) (wd_11 hw) (by decide) (argsL := [(.ref b2)]) (S := [(.ref b1)]) (m_tsi_3 hw hU gn1 f6 f7 f8 A5 nc0 nc1 nc2) pd_4 rfl rfl rfl (by decide) (Nat.le_of_ble_eq_true rfl) (by decide) (by decide) (fun T h6 v6 L6 X q6 => ?_)
  obtain ⟨rfl, Kc6, t6, gt6, gn6, Tx6⟩ := q6
  have K9 : Keep h0 h6 [] := K5.trans Kc6 (fun x hx => by cases List.mem_singleton.mp hx; exact (Or.inr sz_b1))
  have sz_t6 : h0.size ≤ t6 := Nat.le_trans K5.1 gt6
  show Wp p e below _ (T.setTop (mkF m 81 #[.val (.int x), .val (.int c0), .val (.int c1), .val (.int c2)] [(.ref b1)]))
  exact g_retR X Y rfl (rfl) rfl d3_81 (fun vm' hW => ⟨_, _, rfl, Tx6, K9, (Gs.warm hW).keep K9⟩) (by decide) (by decide)
set_option maxRecDepth 65536 in
set_option maxHeartbeats 40000000 in
theorem m_cdr {l : Launch} {Z : State} {a0 : Array Value} {n0 : Nat} (hw : ∀ d ∈ tables_1, d.before a0 Z = true) {h0 : Heap} {zc : Int32} {fm : Value} {a : Addr} (hS : own_S Z zc fm) (Ca : Fld Z h0 a "java/lang/String" "coder" "B" (.int (0 : Int32))) :
    Does l Z n0 ⟨"java/lang/String", "coder", "()B"⟩ jdk_42_method_152_code 1 (some .byte) [] { frames := 0, cells := 0, slots := 0, locals := 0 } #[(.ref a)] h0 (fun v h => v = some (.int (0 : Int32)) ∧ h0 = h) := by
  refine Does.start (plainFor_of_name pn_4) ?_
  obtain ⟨S_zc, hzc, S_fm, hfm⟩ := id hS
  intro p e s m below meth c T X
  replace X : Sd Z n0 0 jdk_42_method_152_code 1 "java/lang/String" "coder" (some .byte) h0 p l e { frames := 0, cells := 0, slots := 0, locals := 0 } s m #[(.ref a)] below meth c T [] 0 0 := X
  refine Wp.cast (g' := mkF m 0 #[.val (.ref a)] []) (by first | (simp [entryFrame, mkF, argsToLocals, Value.category, maxLocals]; done) | rfl) ?_
  refine w_getS X djdk_42_152_0 (host := "") (Or.inl (wd_19 hw)) Via.refl (S_zc.ext X.old.2) (fun T X => ?_)
  refine w_ifeq X djdk_42_152_3 (fun hc => absurd hc hzc) (fun _ => ?_)
  refine w_aloadN X djdk_42_152_6 rfl (rfl) ?_
  refine w_getF X djdk_42_152_7 (host := "") (Or.inl (wd_31 hw)) Via.refl Ca (fun T X => ?_)
  refine w_goto X djdk_42_152_10 ?_
  exact w_ret_byte X (0 : Int32) (by decide) djdk_42_152_14 ⟨rfl, rfl⟩ (by decide) (by decide)
set_option maxRecDepth 65536 in
set_option maxHeartbeats 40000000 in
theorem m_cdr1 {l : Launch} {Z : State} {a0 : Array Value} {n0 : Nat} (hw : ∀ d ∈ tables_1, d.before a0 Z = true) {h0 : Heap} {zc : Int32} {fm : Value} {a : Addr} (hS : own_S Z zc fm) (Ca : Fld Z h0 a "java/lang/String" "coder" "B" (.int (1 : Int32))) :
    Does l Z n0 ⟨"java/lang/String", "coder", "()B"⟩ jdk_42_method_152_code 1 (some .byte) [] { frames := 0, cells := 0, slots := 0, locals := 0 } #[(.ref a)] h0 (fun v h => v = some (.int (1 : Int32)) ∧ h0 = h) := by
  refine Does.start (plainFor_of_name pn_4) ?_
  obtain ⟨S_zc, hzc, S_fm, hfm⟩ := id hS
  intro p e s m below meth c T X
  replace X : Sd Z n0 0 jdk_42_method_152_code 1 "java/lang/String" "coder" (some .byte) h0 p l e { frames := 0, cells := 0, slots := 0, locals := 0 } s m #[(.ref a)] below meth c T [] 0 0 := X
  refine Wp.cast (g' := mkF m 0 #[.val (.ref a)] []) (by first | (simp [entryFrame, mkF, argsToLocals, Value.category, maxLocals]; done) | rfl) ?_
  refine w_getS X djdk_42_152_0 (host := "") (Or.inl (wd_19 hw)) Via.refl (S_zc.ext X.old.2) (fun T X => ?_)
  refine w_ifeq X djdk_42_152_3 (fun hc => absurd hc hzc) (fun _ => ?_)
  refine w_aloadN X djdk_42_152_6 rfl (rfl) ?_
  refine w_getF X djdk_42_152_7 (host := "") (Or.inl (wd_31 hw)) Via.refl Ca (fun T X => ?_)
  refine w_goto X djdk_42_152_10 ?_
  exact w_ret_byte X (1 : Int32) (by decide) djdk_42_152_14 ⟨rfl, rfl⟩ (by decide) (by decide)
set_option maxRecDepth 65536 in
set_option maxHeartbeats 40000000 in
theorem m_tlen_0 {l : Launch} {Z : State} {a0 : Array Value} {n0 : Nat} (hw : ∀ d ∈ tables_1, d.before a0 Z = true) {h0 : Heap} {zc : Int32} {fm : Value} {a t : Addr}  (hS : own_S Z zc fm) (Tx : Txt Z h0 a t []) :
    Does l Z n0 ⟨"java/lang/String", "length", "()I"⟩ jdk_42_method_54_code 1 (some .int) [] { frames := 1, cells := 0, slots := 0, locals := 13 } #[(.ref a)] h0 (fun v h => v = some (.int (0 : Int32)) ∧ h0 = h) := by
  refine Does.start (plainFor_of_name pn_4) ?_
  obtain ⟨S_zc, hzc, S_fm, hfm⟩ := id hS
  intro p e s m below meth c T X
  replace X : Sd Z n0 0 jdk_42_method_54_code 1 "java/lang/String" "length" (some .int) h0 p l e { frames := 1, cells := 0, slots := 0, locals := 13 } s m #[(.ref a)] below meth c T [] 0 0 := X
  refine Wp.cast (g' := mkF m 0 #[.val (.ref a)] []) (by first | (simp [entryFrame, mkF, argsToLocals, Value.category, maxLocals]; done) | rfl) ?_
  obtain ⟨Ea, Va, hT⟩ := Tx
  rcases hT with ⟨Ca, At, hl⟩ | ⟨Ca, At⟩
  · replace At : Ary Z h0 t .byte [] := At
    refine w_aloadN X djdk_42_54_0 rfl (rfl) ?_
    refine w_getF X djdk_42_54_1 (host := "") (Or.inl (wd_33 hw)) Via.refl Va (fun T X => ?_)
    refine w_arrlen X (0 : Int32) djdk_42_54_4 At rfl ?_
    refine w_aloadN X djdk_42_54_5 rfl (rfl) ?_
    refine w_callV X djdk_42_54_6 (wd_47 hw) (wd_48 hw) (notFace_of_selects (args := #[]) (mvT X.hZ (wd_50 hw))) (wd_50 hw) (wd_49 hw) (wd_7 hw) (wd_51 hw) (by decide) Ea (argsL := []) (S := [(.int (0 : Int32))]) (m_cdr hw hS Ca) pd_12 rfl rfl rfl (by decide) (Nat.le_of_ble_eq_true rfl) (by decide) (by decide) (fun T h1 v1 L1 X q1 => ?_)
    obtain ⟨rfl, rfl⟩ := q1
    show Wp p e below _ (T.setTop (mkF m 9 #[.val (.ref a)] [(.int (0 : Int32)), (.int (0 : Int32))]))
    refine w_ishr X djdk_42_54_9 ?_
    exact w_retI X djdk_42_54_10 ⟨rfl, rfl⟩ (by decide) (by decide)
  · replace At : Ary Z h0 t .byte [] := At
    refine w_aloadN X djdk_42_54_0 rfl (rfl) ?_
    refine w_getF X djdk_42_54_1 (host := "") (Or.inl (wd_33 hw)) Via.refl Va (fun T X => ?_)
    refine w_arrlen X (0 : Int32) djdk_42_54_4 At rfl ?_
    refine w_aloadN X djdk_42_54_5 rfl (rfl) ?_
    refine w_callV X djdk_42_54_6 (wd_47 hw) (wd_48 hw) (notFace_of_selects (args := #[]) (mvT X.hZ (wd_50 hw))) (wd_50 hw) (wd_49 hw) (wd_7 hw) (wd_51 hw) (by decide) Ea (argsL := []) (S := [(.int (0 : Int32))]) (m_cdr1 hw hS Ca) pd_12 rfl rfl rfl (by decide) (Nat.le_of_ble_eq_true rfl) (by decide) (by decide) (fun T h2 v2 L2 X q2 => ?_)
    obtain ⟨rfl, rfl⟩ := q2
    show Wp p e below _ (T.setTop (mkF m 9 #[.val (.ref a)] [(.int (1 : Int32)), (.int (0 : Int32))]))
    refine w_ishr X djdk_42_54_9 ?_
    exact w_retI X djdk_42_54_10 ⟨rfl, rfl⟩ (by decide) (by decide)
set_option maxRecDepth 65536 in
set_option maxHeartbeats 40000000 in
theorem m_cu_0_0 {l : Launch} {Z : State} {a0 : Array Value} {n0 : Nat} (hw : ∀ d ∈ tables_1, d.before a0 Z = true) {h0 : Heap} {zc : Int32} {fm : Value} {p1 p2 t1 t2 : Addr}  (hU : own_U Z zc fm) (Ta : Txt Z h0 p1 t1 []) (Tb : Txt Z h0 p2 t2 [])  :
    Does l Z n0 ⟨"com/example/whole_session/wholesession/Run", "compareUtf8", "(Ljava/lang/String;Ljava/lang/String;)I"⟩ prog_41_method_13_code 6 (some .int) [] { frames := 2, cells := 0, slots := 0, locals := 26 } #[(.ref p1), (.ref p2)] h0 (fun v h => v = some (.int (own_cu [] [] (0 : Int32) (0 : Int32))) ∧ h0 = h) := by
  refine Does.start (plainFor_of_name pn_3) ?_
  obtain ⟨hS, S_ad, S_hi, S_lo⟩ := id hU
  obtain ⟨S_zc, hzc, S_fm, hfm⟩ := id hS
  intro p e s m below meth c T X
  replace X : Sd Z n0 0 prog_41_method_13_code 6 "com/example/whole_session/wholesession/Run" "compareUtf8" (some .int) h0 p l e { frames := 2, cells := 0, slots := 0, locals := 26 } s m #[(.ref p1), (.ref p2)] below meth c T [] 0 0 := X
  refine Wp.cast (g' := mkF m 0 #[.val (.ref p1), .val (.ref p2), .unset, .unset, .unset, .unset] []) (by first | (simp [entryFrame, mkF, argsToLocals, Value.category, maxLocals]; done) | rfl) ?_
  refine w_aloadN X dprog_41_13_0 rfl (rfl) ?_
  refine w_callV X dprog_41_13_1 (wd_42 hw) (wd_43 hw) (notFace_of_selects (args := #[]) (mvT X.hZ (wd_45 hw))) (wd_45 hw) (wd_44 hw) (wd_7 hw) (wd_46 hw) (by decide) Ta.1 (argsL := []) (S := []) (m_tlen_0 hw hS Ta) pd_13 rfl rfl rfl (by decide) (Nat.le_of_ble_eq_true rfl) (by decide) (by decide) (fun T h1 v1 L1 X q1 => ?_)
  obtain ⟨rfl, rfl⟩ := q1
  show Wp p e below _ (T.setTop (mkF m 4 #[.val (.ref p1), .val (.ref p2), .unset, .unset, .unset, .unset] [(.int (0 : Int32))]))
  refine w_aloadN X dprog_41_13_4 rfl (rfl) ?_
  refine w_callV X dprog_41_13_5 (wd_42 hw) (wd_43 hw) (notFace_of_selects (args := #[]) (mvT X.hZ (wd_45 hw))) (wd_45 hw) (wd_44 hw) (wd_7 hw) (wd_46 hw) (by decide) Tb.1 (argsL := []) (S := [(.int (0 : Int32))]) (m_tlen_0 hw hS Tb) pd_13 rfl rfl rfl (by decide) (Nat.le_of_ble_eq_true rfl) (by decide) (by decide) (fun T h2 v2 L2 X q2 => ?_)
  obtain ⟨rfl, rfl⟩ := q2
  show Wp p e below _ (T.setTop (mkF m 8 #[.val (.ref p1), .val (.ref p2), .unset, .unset, .unset, .unset] [(.int (0 : Int32)), (.int (0 : Int32))]))
  refine w_callS X dprog_41_13_8 (wd_52 hw) (wd_53 hw) (wd_54 hw) (wd_55 hw) (by decide) (argsL := [(.int (0 : Int32)), (.int (0 : Int32))]) (S := []) (m_min hw (r := (0 : Int32)) (by decide)) pd_1 rfl rfl rfl (by decide) (Nat.le_of_ble_eq_true rfl) (by decide) (by decide) (fun T h3 v3 L3 X q3 => ?_)
  obtain ⟨rfl, rfl⟩ := q3
  show Wp p e below _ (T.setTop (mkF m 11 #[.val (.ref p1), .val (.ref p2), .unset, .unset, .unset, .unset] [(.int (0 : Int32))]))
  refine w_istoreN X #[.val (.ref p1), .val (.ref p2), .val (.int (0 : Int32)), .unset, .unset, .unset] dprog_41_13_11 rfl ?_
  refine w_iconst X (0 : Int32) dprog_41_13_12 rfl ?_
  refine w_istoreN X #[.val (.ref p1), .val (.ref p2), .val (.int (0 : Int32)), .val (.int (0 : Int32)), .unset, .unset] dprog_41_13_13 rfl ?_
  refine w_iloadN X dprog_41_13_14 rfl ?_
  refine w_iloadN X dprog_41_13_15 rfl ?_
  refine w_icmpge X dprog_41_13_16 (fun _ => ?_) (fun hc => absurd hc Int32.lt_irrefl)
  refine w_aloadN X dprog_41_13_60 rfl (rfl) ?_
  refine w_callV X dprog_41_13_61 (wd_42 hw) (wd_43 hw) (notFace_of_selects (args := #[]) (mvT X.hZ (wd_45 hw))) (wd_45 hw) (wd_44 hw) (wd_7 hw) (wd_46 hw) (by decide) Ta.1 (argsL := []) (S := []) (m_tlen_0 hw hS Ta) pd_13 rfl rfl rfl (by decide) (Nat.le_of_ble_eq_true rfl) (by decide) (by decide) (fun T h4 v4 L4 X q4 => ?_)
  obtain ⟨rfl, rfl⟩ := q4
  show Wp p e below _ (T.setTop (mkF m 64 #[.val (.ref p1), .val (.ref p2), .val (.int (0 : Int32)), .val (.int (0 : Int32)), .unset, .unset] [(.int (0 : Int32))]))
  refine w_aloadN X dprog_41_13_64 rfl (rfl) ?_
  refine w_callV X dprog_41_13_65 (wd_42 hw) (wd_43 hw) (notFace_of_selects (args := #[]) (mvT X.hZ (wd_45 hw))) (wd_45 hw) (wd_44 hw) (wd_7 hw) (wd_46 hw) (by decide) Tb.1 (argsL := []) (S := [(.int (0 : Int32))]) (m_tlen_0 hw hS Tb) pd_13 rfl rfl rfl (by decide) (Nat.le_of_ble_eq_true rfl) (by decide) (by decide) (fun T h5 v5 L5 X q5 => ?_)
  obtain ⟨rfl, rfl⟩ := q5
  show Wp p e below _ (T.setTop (mkF m 68 #[.val (.ref p1), .val (.ref p2), .val (.int (0 : Int32)), .val (.int (0 : Int32)), .unset, .unset] [(.int (0 : Int32)), (.int (0 : Int32))]))
  refine w_callS X dprog_41_13_68 (wd_56 hw) (wd_57 hw) (wd_58 hw) (wd_59 hw) (by decide) (argsL := [(.int (0 : Int32)), (.int (0 : Int32))]) (S := []) (m_ic hw (x0 := (0 : Int32)) (y0 := (0 : Int32))) pd_1 rfl rfl rfl (by decide) (Nat.le_of_ble_eq_true rfl) (by decide) (by decide) (fun T h6 v6 L6 X q6 => ?_)
  obtain ⟨rfl, rfl⟩ := q6
  show Wp p e below _ (T.setTop (mkF m 71 #[.val (.ref p1), .val (.ref p2), .val (.int (0 : Int32)), .val (.int (0 : Int32)), .unset, .unset] [(.int (own_icmp (0 : Int32) (0 : Int32)))]))
  exact w_retI X dprog_41_13_71 ⟨by simp only [own_cu, *, if_true, if_false], rfl⟩ (by decide) (by decide)
set_option maxRecDepth 65536 in
set_option maxHeartbeats 40000000 in
theorem m_tlen_1 {l : Launch} {Z : State} {a0 : Array Value} {n0 : Nat} (hw : ∀ d ∈ tables_1, d.before a0 Z = true) {h0 : Heap} {zc : Int32} {fm : Value} {a t : Addr} {c0 : Int32} (hS : own_S Z zc fm) (Tx : Txt Z h0 a t [c0]) :
    Does l Z n0 ⟨"java/lang/String", "length", "()I"⟩ jdk_42_method_54_code 1 (some .int) [] { frames := 1, cells := 0, slots := 0, locals := 13 } #[(.ref a)] h0 (fun v h => v = some (.int (1 : Int32)) ∧ h0 = h) := by
  refine Does.start (plainFor_of_name pn_4) ?_
  obtain ⟨S_zc, hzc, S_fm, hfm⟩ := id hS
  intro p e s m below meth c T X
  replace X : Sd Z n0 0 jdk_42_method_54_code 1 "java/lang/String" "length" (some .int) h0 p l e { frames := 1, cells := 0, slots := 0, locals := 13 } s m #[(.ref a)] below meth c T [] 0 0 := X
  refine Wp.cast (g' := mkF m 0 #[.val (.ref a)] []) (by first | (simp [entryFrame, mkF, argsToLocals, Value.category, maxLocals]; done) | rfl) ?_
  obtain ⟨Ea, Va, hT⟩ := Tx
  rcases hT with ⟨Ca, At, hl⟩ | ⟨Ca, At⟩
  · replace At : Ary Z h0 t .byte [(.int (c0.toInt8.toInt32))] := At
    refine w_aloadN X djdk_42_54_0 rfl (rfl) ?_
    refine w_getF X djdk_42_54_1 (host := "") (Or.inl (wd_33 hw)) Via.refl Va (fun T X => ?_)
    refine w_arrlen X (1 : Int32) djdk_42_54_4 At rfl ?_
    refine w_aloadN X djdk_42_54_5 rfl (rfl) ?_
    refine w_callV X djdk_42_54_6 (wd_47 hw) (wd_48 hw) (notFace_of_selects (args := #[]) (mvT X.hZ (wd_50 hw))) (wd_50 hw) (wd_49 hw) (wd_7 hw) (wd_51 hw) (by decide) Ea (argsL := []) (S := [(.int (1 : Int32))]) (m_cdr hw hS Ca) pd_12 rfl rfl rfl (by decide) (Nat.le_of_ble_eq_true rfl) (by decide) (by decide) (fun T h1 v1 L1 X q1 => ?_)
    obtain ⟨rfl, rfl⟩ := q1
    show Wp p e below _ (T.setTop (mkF m 9 #[.val (.ref a)] [(.int (0 : Int32)), (.int (1 : Int32))]))
    refine w_ishr X djdk_42_54_9 ?_
    exact w_retI X djdk_42_54_10 ⟨rfl, rfl⟩ (by decide) (by decide)
  · replace At : Ary Z h0 t .byte [(.int ((c0 >>> ((0 : Int32) &&& 31)).toInt8.toInt32)), (.int ((c0 >>> ((8 : Int32) &&& 31)).toInt8.toInt32))] := At
    refine w_aloadN X djdk_42_54_0 rfl (rfl) ?_
    refine w_getF X djdk_42_54_1 (host := "") (Or.inl (wd_33 hw)) Via.refl Va (fun T X => ?_)
    refine w_arrlen X (2 : Int32) djdk_42_54_4 At rfl ?_
    refine w_aloadN X djdk_42_54_5 rfl (rfl) ?_
    refine w_callV X djdk_42_54_6 (wd_47 hw) (wd_48 hw) (notFace_of_selects (args := #[]) (mvT X.hZ (wd_50 hw))) (wd_50 hw) (wd_49 hw) (wd_7 hw) (wd_51 hw) (by decide) Ea (argsL := []) (S := [(.int (2 : Int32))]) (m_cdr1 hw hS Ca) pd_12 rfl rfl rfl (by decide) (Nat.le_of_ble_eq_true rfl) (by decide) (by decide) (fun T h2 v2 L2 X q2 => ?_)
    obtain ⟨rfl, rfl⟩ := q2
    show Wp p e below _ (T.setTop (mkF m 9 #[.val (.ref a)] [(.int (1 : Int32)), (.int (2 : Int32))]))
    refine w_ishr X djdk_42_54_9 ?_
    exact w_retI X djdk_42_54_10 ⟨rfl, rfl⟩ (by decide) (by decide)
set_option maxRecDepth 65536 in
set_option maxHeartbeats 40000000 in
theorem m_cu_0_1 {l : Launch} {Z : State} {a0 : Array Value} {n0 : Nat} (hw : ∀ d ∈ tables_1, d.before a0 Z = true) {h0 : Heap} {zc : Int32} {fm : Value} {p1 p2 t1 t2 : Addr} {b0 : Int32} (hU : own_U Z zc fm) (Ta : Txt Z h0 p1 t1 []) (Tb : Txt Z h0 p2 t2 [b0]) (hb0 : nar .char b0 = b0) :
    Does l Z n0 ⟨"com/example/whole_session/wholesession/Run", "compareUtf8", "(Ljava/lang/String;Ljava/lang/String;)I"⟩ prog_41_method_13_code 6 (some .int) [] { frames := 2, cells := 0, slots := 0, locals := 26 } #[(.ref p1), (.ref p2)] h0 (fun v h => v = some (.int (own_cu [] [b0] (0 : Int32) (1 : Int32))) ∧ h0 = h) := by
  refine Does.start (plainFor_of_name pn_3) ?_
  obtain ⟨hS, S_ad, S_hi, S_lo⟩ := id hU
  obtain ⟨S_zc, hzc, S_fm, hfm⟩ := id hS
  intro p e s m below meth c T X
  replace X : Sd Z n0 0 prog_41_method_13_code 6 "com/example/whole_session/wholesession/Run" "compareUtf8" (some .int) h0 p l e { frames := 2, cells := 0, slots := 0, locals := 26 } s m #[(.ref p1), (.ref p2)] below meth c T [] 0 0 := X
  refine Wp.cast (g' := mkF m 0 #[.val (.ref p1), .val (.ref p2), .unset, .unset, .unset, .unset] []) (by first | (simp [entryFrame, mkF, argsToLocals, Value.category, maxLocals]; done) | rfl) ?_
  refine w_aloadN X dprog_41_13_0 rfl (rfl) ?_
  refine w_callV X dprog_41_13_1 (wd_42 hw) (wd_43 hw) (notFace_of_selects (args := #[]) (mvT X.hZ (wd_45 hw))) (wd_45 hw) (wd_44 hw) (wd_7 hw) (wd_46 hw) (by decide) Ta.1 (argsL := []) (S := []) (m_tlen_0 hw hS Ta) pd_13 rfl rfl rfl (by decide) (Nat.le_of_ble_eq_true rfl) (by decide) (by decide) (fun T h1 v1 L1 X q1 => ?_)
  obtain ⟨rfl, rfl⟩ := q1
  show Wp p e below _ (T.setTop (mkF m 4 #[.val (.ref p1), .val (.ref p2), .unset, .unset, .unset, .unset] [(.int (0 : Int32))]))
  refine w_aloadN X dprog_41_13_4 rfl (rfl) ?_
  refine w_callV X dprog_41_13_5 (wd_42 hw) (wd_43 hw) (notFace_of_selects (args := #[]) (mvT X.hZ (wd_45 hw))) (wd_45 hw) (wd_44 hw) (wd_7 hw) (wd_46 hw) (by decide) Tb.1 (argsL := []) (S := [(.int (0 : Int32))]) (m_tlen_1 hw hS Tb) pd_13 rfl rfl rfl (by decide) (Nat.le_of_ble_eq_true rfl) (by decide) (by decide) (fun T h2 v2 L2 X q2 => ?_)
  obtain ⟨rfl, rfl⟩ := q2
  show Wp p e below _ (T.setTop (mkF m 8 #[.val (.ref p1), .val (.ref p2), .unset, .unset, .unset, .unset] [(.int (1 : Int32)), (.int (0 : Int32))]))
  refine w_callS X dprog_41_13_8 (wd_52 hw) (wd_53 hw) (wd_54 hw) (wd_55 hw) (by decide) (argsL := [(.int (0 : Int32)), (.int (1 : Int32))]) (S := []) (m_min hw (r := (0 : Int32)) (by decide)) pd_1 rfl rfl rfl (by decide) (Nat.le_of_ble_eq_true rfl) (by decide) (by decide) (fun T h3 v3 L3 X q3 => ?_)
  obtain ⟨rfl, rfl⟩ := q3
  show Wp p e below _ (T.setTop (mkF m 11 #[.val (.ref p1), .val (.ref p2), .unset, .unset, .unset, .unset] [(.int (0 : Int32))]))
  refine w_istoreN X #[.val (.ref p1), .val (.ref p2), .val (.int (0 : Int32)), .unset, .unset, .unset] dprog_41_13_11 rfl ?_
  refine w_iconst X (0 : Int32) dprog_41_13_12 rfl ?_
  refine w_istoreN X #[.val (.ref p1), .val (.ref p2), .val (.int (0 : Int32)), .val (.int (0 : Int32)), .unset, .unset] dprog_41_13_13 rfl ?_
  refine w_iloadN X dprog_41_13_14 rfl ?_
  refine w_iloadN X dprog_41_13_15 rfl ?_
  refine w_icmpge X dprog_41_13_16 (fun _ => ?_) (fun hc => absurd hc Int32.lt_irrefl)
  refine w_aloadN X dprog_41_13_60 rfl (rfl) ?_
  refine w_callV X dprog_41_13_61 (wd_42 hw) (wd_43 hw) (notFace_of_selects (args := #[]) (mvT X.hZ (wd_45 hw))) (wd_45 hw) (wd_44 hw) (wd_7 hw) (wd_46 hw) (by decide) Ta.1 (argsL := []) (S := []) (m_tlen_0 hw hS Ta) pd_13 rfl rfl rfl (by decide) (Nat.le_of_ble_eq_true rfl) (by decide) (by decide) (fun T h4 v4 L4 X q4 => ?_)
  obtain ⟨rfl, rfl⟩ := q4
  show Wp p e below _ (T.setTop (mkF m 64 #[.val (.ref p1), .val (.ref p2), .val (.int (0 : Int32)), .val (.int (0 : Int32)), .unset, .unset] [(.int (0 : Int32))]))
  refine w_aloadN X dprog_41_13_64 rfl (rfl) ?_
  refine w_callV X dprog_41_13_65 (wd_42 hw) (wd_43 hw) (notFace_of_selects (args := #[]) (mvT X.hZ (wd_45 hw))) (wd_45 hw) (wd_44 hw) (wd_7 hw) (wd_46 hw) (by decide) Tb.1 (argsL := []) (S := [(.int (0 : Int32))]) (m_tlen_1 hw hS Tb) pd_13 rfl rfl rfl (by decide) (Nat.le_of_ble_eq_true rfl) (by decide) (by decide) (fun T h5 v5 L5 X q5 => ?_)
  obtain ⟨rfl, rfl⟩ := q5
  show Wp p e below _ (T.setTop (mkF m 68 #[.val (.ref p1), .val (.ref p2), .val (.int (0 : Int32)), .val (.int (0 : Int32)), .unset, .unset] [(.int (1 : Int32)), (.int (0 : Int32))]))
  refine w_callS X dprog_41_13_68 (wd_56 hw) (wd_57 hw) (wd_58 hw) (wd_59 hw) (by decide) (argsL := [(.int (0 : Int32)), (.int (1 : Int32))]) (S := []) (m_ic hw (x0 := (0 : Int32)) (y0 := (1 : Int32))) pd_1 rfl rfl rfl (by decide) (Nat.le_of_ble_eq_true rfl) (by decide) (by decide) (fun T h6 v6 L6 X q6 => ?_)
  obtain ⟨rfl, rfl⟩ := q6
  show Wp p e below _ (T.setTop (mkF m 71 #[.val (.ref p1), .val (.ref p2), .val (.int (0 : Int32)), .val (.int (0 : Int32)), .unset, .unset] [(.int (own_icmp (0 : Int32) (1 : Int32)))]))
  exact w_retI X dprog_41_13_71 ⟨by simp only [own_cu, *, if_true, if_false], rfl⟩ (by decide) (by decide)
set_option maxRecDepth 65536 in
set_option maxHeartbeats 40000000 in
theorem m_tlen_2 {l : Launch} {Z : State} {a0 : Array Value} {n0 : Nat} (hw : ∀ d ∈ tables_1, d.before a0 Z = true) {h0 : Heap} {zc : Int32} {fm : Value} {a t : Addr} {c0 c1 : Int32} (hS : own_S Z zc fm) (Tx : Txt Z h0 a t [c0, c1]) :
    Does l Z n0 ⟨"java/lang/String", "length", "()I"⟩ jdk_42_method_54_code 1 (some .int) [] { frames := 1, cells := 0, slots := 0, locals := 13 } #[(.ref a)] h0 (fun v h => v = some (.int (2 : Int32)) ∧ h0 = h) := by
  refine Does.start (plainFor_of_name pn_4) ?_
  obtain ⟨S_zc, hzc, S_fm, hfm⟩ := id hS
  intro p e s m below meth c T X
  replace X : Sd Z n0 0 jdk_42_method_54_code 1 "java/lang/String" "length" (some .int) h0 p l e { frames := 1, cells := 0, slots := 0, locals := 13 } s m #[(.ref a)] below meth c T [] 0 0 := X
  refine Wp.cast (g' := mkF m 0 #[.val (.ref a)] []) (by first | (simp [entryFrame, mkF, argsToLocals, Value.category, maxLocals]; done) | rfl) ?_
  obtain ⟨Ea, Va, hT⟩ := Tx
  rcases hT with ⟨Ca, At, hl⟩ | ⟨Ca, At⟩
  · replace At : Ary Z h0 t .byte [(.int (c0.toInt8.toInt32)), (.int (c1.toInt8.toInt32))] := At
    refine w_aloadN X djdk_42_54_0 rfl (rfl) ?_
    refine w_getF X djdk_42_54_1 (host := "") (Or.inl (wd_33 hw)) Via.refl Va (fun T X => ?_)
    refine w_arrlen X (2 : Int32) djdk_42_54_4 At rfl ?_
    refine w_aloadN X djdk_42_54_5 rfl (rfl) ?_
    refine w_callV X djdk_42_54_6 (wd_47 hw) (wd_48 hw) (notFace_of_selects (args := #[]) (mvT X.hZ (wd_50 hw))) (wd_50 hw) (wd_49 hw) (wd_7 hw) (wd_51 hw) (by decide) Ea (argsL := []) (S := [(.int (2 : Int32))]) (m_cdr hw hS Ca) pd_12 rfl rfl rfl (by decide) (Nat.le_of_ble_eq_true rfl) (by decide) (by decide) (fun T h1 v1 L1 X q1 => ?_)
    obtain ⟨rfl, rfl⟩ := q1
    show Wp p e below _ (T.setTop (mkF m 9 #[.val (.ref a)] [(.int (0 : Int32)), (.int (2 : Int32))]))
    refine w_ishr X djdk_42_54_9 ?_
    exact w_retI X djdk_42_54_10 ⟨rfl, rfl⟩ (by decide) (by decide)
  · replace At : Ary Z h0 t .byte [(.int ((c0 >>> ((0 : Int32) &&& 31)).toInt8.toInt32)), (.int ((c0 >>> ((8 : Int32) &&& 31)).toInt8.toInt32)), (.int ((c1 >>> ((0 : Int32) &&& 31)).toInt8.toInt32)), (.int ((c1 >>> ((8 : Int32) &&& 31)).toInt8.toInt32))] := At
    refine w_aloadN X djdk_42_54_0 rfl (rfl) ?_
    refine w_getF X djdk_42_54_1 (host := "") (Or.inl (wd_33 hw)) Via.refl Va (fun T X => ?_)
    refine w_arrlen X (4 : Int32) djdk_42_54_4 At rfl ?_
    refine w_aloadN X djdk_42_54_5 rfl (rfl) ?_
    refine w_callV X djdk_42_54_6 (wd_47 hw) (wd_48 hw) (notFace_of_selects (args := #[]) (mvT X.hZ (wd_50 hw))) (wd_50 hw) (wd_49 hw) (wd_7 hw) (wd_51 hw) (by decide) Ea (argsL := []) (S := [(.int (4 : Int32))]) (m_cdr1 hw hS Ca) pd_12 rfl rfl rfl (by decide) (Nat.le_of_ble_eq_true rfl) (by decide) (by decide) (fun T h2 v2 L2 X q2 => ?_)
    obtain ⟨rfl, rfl⟩ := q2
    show Wp p e below _ (T.setTop (mkF m 9 #[.val (.ref a)] [(.int (1 : Int32)), (.int (4 : Int32))]))
    refine w_ishr X djdk_42_54_9 ?_
    exact w_retI X djdk_42_54_10 ⟨rfl, rfl⟩ (by decide) (by decide)
set_option maxRecDepth 65536 in
set_option maxHeartbeats 40000000 in
theorem m_cu_0_2 {l : Launch} {Z : State} {a0 : Array Value} {n0 : Nat} (hw : ∀ d ∈ tables_1, d.before a0 Z = true) {h0 : Heap} {zc : Int32} {fm : Value} {p1 p2 t1 t2 : Addr} {b0 b1 : Int32} (hU : own_U Z zc fm) (Ta : Txt Z h0 p1 t1 []) (Tb : Txt Z h0 p2 t2 [b0, b1]) (hb0 : nar .char b0 = b0) (hb1 : nar .char b1 = b1) :
    Does l Z n0 ⟨"com/example/whole_session/wholesession/Run", "compareUtf8", "(Ljava/lang/String;Ljava/lang/String;)I"⟩ prog_41_method_13_code 6 (some .int) [] { frames := 2, cells := 0, slots := 0, locals := 26 } #[(.ref p1), (.ref p2)] h0 (fun v h => v = some (.int (own_cu [] [b0, b1] (0 : Int32) (2 : Int32))) ∧ h0 = h) := by
  refine Does.start (plainFor_of_name pn_3) ?_
  obtain ⟨hS, S_ad, S_hi, S_lo⟩ := id hU
  obtain ⟨S_zc, hzc, S_fm, hfm⟩ := id hS
  intro p e s m below meth c T X
  replace X : Sd Z n0 0 prog_41_method_13_code 6 "com/example/whole_session/wholesession/Run" "compareUtf8" (some .int) h0 p l e { frames := 2, cells := 0, slots := 0, locals := 26 } s m #[(.ref p1), (.ref p2)] below meth c T [] 0 0 := X
  refine Wp.cast (g' := mkF m 0 #[.val (.ref p1), .val (.ref p2), .unset, .unset, .unset, .unset] []) (by first | (simp [entryFrame, mkF, argsToLocals, Value.category, maxLocals]; done) | rfl) ?_
  refine w_aloadN X dprog_41_13_0 rfl (rfl) ?_
  refine w_callV X dprog_41_13_1 (wd_42 hw) (wd_43 hw) (notFace_of_selects (args := #[]) (mvT X.hZ (wd_45 hw))) (wd_45 hw) (wd_44 hw) (wd_7 hw) (wd_46 hw) (by decide) Ta.1 (argsL := []) (S := []) (m_tlen_0 hw hS Ta) pd_13 rfl rfl rfl (by decide) (Nat.le_of_ble_eq_true rfl) (by decide) (by decide) (fun T h1 v1 L1 X q1 => ?_)
  obtain ⟨rfl, rfl⟩ := q1
  show Wp p e below _ (T.setTop (mkF m 4 #[.val (.ref p1), .val (.ref p2), .unset, .unset, .unset, .unset] [(.int (0 : Int32))]))
  refine w_aloadN X dprog_41_13_4 rfl (rfl) ?_
  refine w_callV X dprog_41_13_5 (wd_42 hw) (wd_43 hw) (notFace_of_selects (args := #[]) (mvT X.hZ (wd_45 hw))) (wd_45 hw) (wd_44 hw) (wd_7 hw) (wd_46 hw) (by decide) Tb.1 (argsL := []) (S := [(.int (0 : Int32))]) (m_tlen_2 hw hS Tb) pd_13 rfl rfl rfl (by decide) (Nat.le_of_ble_eq_true rfl) (by decide) (by decide) (fun T h2 v2 L2 X q2 => ?_)
  obtain ⟨rfl, rfl⟩ := q2
  show Wp p e below _ (T.setTop (mkF m 8 #[.val (.ref p1), .val (.ref p2), .unset, .unset, .unset, .unset] [(.int (2 : Int32)), (.int (0 : Int32))]))
  refine w_callS X dprog_41_13_8 (wd_52 hw) (wd_53 hw) (wd_54 hw) (wd_55 hw) (by decide) (argsL := [(.int (0 : Int32)), (.int (2 : Int32))]) (S := []) (m_min hw (r := (0 : Int32)) (by decide)) pd_1 rfl rfl rfl (by decide) (Nat.le_of_ble_eq_true rfl) (by decide) (by decide) (fun T h3 v3 L3 X q3 => ?_)
  obtain ⟨rfl, rfl⟩ := q3
  show Wp p e below _ (T.setTop (mkF m 11 #[.val (.ref p1), .val (.ref p2), .unset, .unset, .unset, .unset] [(.int (0 : Int32))]))
  refine w_istoreN X #[.val (.ref p1), .val (.ref p2), .val (.int (0 : Int32)), .unset, .unset, .unset] dprog_41_13_11 rfl ?_
  refine w_iconst X (0 : Int32) dprog_41_13_12 rfl ?_
  refine w_istoreN X #[.val (.ref p1), .val (.ref p2), .val (.int (0 : Int32)), .val (.int (0 : Int32)), .unset, .unset] dprog_41_13_13 rfl ?_
  refine w_iloadN X dprog_41_13_14 rfl ?_
  refine w_iloadN X dprog_41_13_15 rfl ?_
  refine w_icmpge X dprog_41_13_16 (fun _ => ?_) (fun hc => absurd hc Int32.lt_irrefl)
  refine w_aloadN X dprog_41_13_60 rfl (rfl) ?_
  refine w_callV X dprog_41_13_61 (wd_42 hw) (wd_43 hw) (notFace_of_selects (args := #[]) (mvT X.hZ (wd_45 hw))) (wd_45 hw) (wd_44 hw) (wd_7 hw) (wd_46 hw) (by decide) Ta.1 (argsL := []) (S := []) (m_tlen_0 hw hS Ta) pd_13 rfl rfl rfl (by decide) (Nat.le_of_ble_eq_true rfl) (by decide) (by decide) (fun T h4 v4 L4 X q4 => ?_)
  obtain ⟨rfl, rfl⟩ := q4
  show Wp p e below _ (T.setTop (mkF m 64 #[.val (.ref p1), .val (.ref p2), .val (.int (0 : Int32)), .val (.int (0 : Int32)), .unset, .unset] [(.int (0 : Int32))]))
  refine w_aloadN X dprog_41_13_64 rfl (rfl) ?_
  refine w_callV X dprog_41_13_65 (wd_42 hw) (wd_43 hw) (notFace_of_selects (args := #[]) (mvT X.hZ (wd_45 hw))) (wd_45 hw) (wd_44 hw) (wd_7 hw) (wd_46 hw) (by decide) Tb.1 (argsL := []) (S := [(.int (0 : Int32))]) (m_tlen_2 hw hS Tb) pd_13 rfl rfl rfl (by decide) (Nat.le_of_ble_eq_true rfl) (by decide) (by decide) (fun T h5 v5 L5 X q5 => ?_)
  obtain ⟨rfl, rfl⟩ := q5
  show Wp p e below _ (T.setTop (mkF m 68 #[.val (.ref p1), .val (.ref p2), .val (.int (0 : Int32)), .val (.int (0 : Int32)), .unset, .unset] [(.int (2 : Int32)), (.int (0 : Int32))]))
  refine w_callS X dprog_41_13_68 (wd_56 hw) (wd_57 hw) (wd_58 hw) (wd_59 hw) (by decide) (argsL := [(.int (0 : Int32)), (.int (2 : Int32))]) (S := []) (m_ic hw (x0 := (0 : Int32)) (y0 := (2 : Int32))) pd_1 rfl rfl rfl (by decide) (Nat.le_of_ble_eq_true rfl) (by decide) (by decide) (fun T h6 v6 L6 X q6 => ?_)
  obtain ⟨rfl, rfl⟩ := q6
  show Wp p e below _ (T.setTop (mkF m 71 #[.val (.ref p1), .val (.ref p2), .val (.int (0 : Int32)), .val (.int (0 : Int32)), .unset, .unset] [(.int (own_icmp (0 : Int32) (2 : Int32)))]))
  exact w_retI X dprog_41_13_71 ⟨by simp only [own_cu, *, if_true, if_false], rfl⟩ (by decide) (by decide)
set_option maxRecDepth 65536 in
set_option maxHeartbeats 40000000 in
theorem m_tlen_3 {l : Launch} {Z : State} {a0 : Array Value} {n0 : Nat} (hw : ∀ d ∈ tables_1, d.before a0 Z = true) {h0 : Heap} {zc : Int32} {fm : Value} {a t : Addr} {c0 c1 c2 : Int32} (hS : own_S Z zc fm) (Tx : Txt Z h0 a t [c0, c1, c2]) :
    Does l Z n0 ⟨"java/lang/String", "length", "()I"⟩ jdk_42_method_54_code 1 (some .int) [] { frames := 1, cells := 0, slots := 0, locals := 13 } #[(.ref a)] h0 (fun v h => v = some (.int (3 : Int32)) ∧ h0 = h) := by
  refine Does.start (plainFor_of_name pn_4) ?_
  obtain ⟨S_zc, hzc, S_fm, hfm⟩ := id hS
  intro p e s m below meth c T X
  replace X : Sd Z n0 0 jdk_42_method_54_code 1 "java/lang/String" "length" (some .int) h0 p l e { frames := 1, cells := 0, slots := 0, locals := 13 } s m #[(.ref a)] below meth c T [] 0 0 := X
  refine Wp.cast (g' := mkF m 0 #[.val (.ref a)] []) (by first | (simp [entryFrame, mkF, argsToLocals, Value.category, maxLocals]; done) | rfl) ?_
  obtain ⟨Ea, Va, hT⟩ := Tx
  rcases hT with ⟨Ca, At, hl⟩ | ⟨Ca, At⟩
  · replace At : Ary Z h0 t .byte [(.int (c0.toInt8.toInt32)), (.int (c1.toInt8.toInt32)), (.int (c2.toInt8.toInt32))] := At
    refine w_aloadN X djdk_42_54_0 rfl (rfl) ?_
    refine w_getF X djdk_42_54_1 (host := "") (Or.inl (wd_33 hw)) Via.refl Va (fun T X => ?_)
    refine w_arrlen X (3 : Int32) djdk_42_54_4 At rfl ?_
    refine w_aloadN X djdk_42_54_5 rfl (rfl) ?_
    refine w_callV X djdk_42_54_6 (wd_47 hw) (wd_48 hw) (notFace_of_selects (args := #[]) (mvT X.hZ (wd_50 hw))) (wd_50 hw) (wd_49 hw) (wd_7 hw) (wd_51 hw) (by decide) Ea (argsL := []) (S := [(.int (3 : Int32))]) (m_cdr hw hS Ca) pd_12 rfl rfl rfl (by decide) (Nat.le_of_ble_eq_true rfl) (by decide) (by decide) (fun T h1 v1 L1 X q1 => ?_)
    obtain ⟨rfl, rfl⟩ := q1
    show Wp p e below _ (T.setTop (mkF m 9 #[.val (.ref a)] [(.int (0 : Int32)), (.int (3 : Int32))]))
    refine w_ishr X djdk_42_54_9 ?_
    exact w_retI X djdk_42_54_10 ⟨rfl, rfl⟩ (by decide) (by decide)
  · replace At : Ary Z h0 t .byte [(.int ((c0 >>> ((0 : Int32) &&& 31)).toInt8.toInt32)), (.int ((c0 >>> ((8 : Int32) &&& 31)).toInt8.toInt32)), (.int ((c1 >>> ((0 : Int32) &&& 31)).toInt8.toInt32)), (.int ((c1 >>> ((8 : Int32) &&& 31)).toInt8.toInt32)), (.int ((c2 >>> ((0 : Int32) &&& 31)).toInt8.toInt32)), (.int ((c2 >>> ((8 : Int32) &&& 31)).toInt8.toInt32))] := At
    refine w_aloadN X djdk_42_54_0 rfl (rfl) ?_
    refine w_getF X djdk_42_54_1 (host := "") (Or.inl (wd_33 hw)) Via.refl Va (fun T X => ?_)
    refine w_arrlen X (6 : Int32) djdk_42_54_4 At rfl ?_
    refine w_aloadN X djdk_42_54_5 rfl (rfl) ?_
    refine w_callV X djdk_42_54_6 (wd_47 hw) (wd_48 hw) (notFace_of_selects (args := #[]) (mvT X.hZ (wd_50 hw))) (wd_50 hw) (wd_49 hw) (wd_7 hw) (wd_51 hw) (by decide) Ea (argsL := []) (S := [(.int (6 : Int32))]) (m_cdr1 hw hS Ca) pd_12 rfl rfl rfl (by decide) (Nat.le_of_ble_eq_true rfl) (by decide) (by decide) (fun T h2 v2 L2 X q2 => ?_)
    obtain ⟨rfl, rfl⟩ := q2
    show Wp p e below _ (T.setTop (mkF m 9 #[.val (.ref a)] [(.int (1 : Int32)), (.int (6 : Int32))]))
    refine w_ishr X djdk_42_54_9 ?_
    exact w_retI X djdk_42_54_10 ⟨rfl, rfl⟩ (by decide) (by decide)
set_option maxRecDepth 65536 in
set_option maxHeartbeats 40000000 in
theorem m_cu_0_3 {l : Launch} {Z : State} {a0 : Array Value} {n0 : Nat} (hw : ∀ d ∈ tables_1, d.before a0 Z = true) {h0 : Heap} {zc : Int32} {fm : Value} {p1 p2 t1 t2 : Addr} {b0 b1 b2 : Int32} (hU : own_U Z zc fm) (Ta : Txt Z h0 p1 t1 []) (Tb : Txt Z h0 p2 t2 [b0, b1, b2]) (hb0 : nar .char b0 = b0) (hb1 : nar .char b1 = b1) (hb2 : nar .char b2 = b2) :
    Does l Z n0 ⟨"com/example/whole_session/wholesession/Run", "compareUtf8", "(Ljava/lang/String;Ljava/lang/String;)I"⟩ prog_41_method_13_code 6 (some .int) [] { frames := 2, cells := 0, slots := 0, locals := 26 } #[(.ref p1), (.ref p2)] h0 (fun v h => v = some (.int (own_cu [] [b0, b1, b2] (0 : Int32) (3 : Int32))) ∧ h0 = h) := by
  refine Does.start (plainFor_of_name pn_3) ?_
  obtain ⟨hS, S_ad, S_hi, S_lo⟩ := id hU
  obtain ⟨S_zc, hzc, S_fm, hfm⟩ := id hS
  intro p e s m below meth c T X
  replace X : Sd Z n0 0 prog_41_method_13_code 6 "com/example/whole_session/wholesession/Run" "compareUtf8" (some .int) h0 p l e { frames := 2, cells := 0, slots := 0, locals := 26 } s m #[(.ref p1), (.ref p2)] below meth c T [] 0 0 := X
  refine Wp.cast (g' := mkF m 0 #[.val (.ref p1), .val (.ref p2), .unset, .unset, .unset, .unset] []) (by first | (simp [entryFrame, mkF, argsToLocals, Value.category, maxLocals]; done) | rfl) ?_
  refine w_aloadN X dprog_41_13_0 rfl (rfl) ?_
  refine w_callV X dprog_41_13_1 (wd_42 hw) (wd_43 hw) (notFace_of_selects (args := #[]) (mvT X.hZ (wd_45 hw))) (wd_45 hw) (wd_44 hw) (wd_7 hw) (wd_46 hw) (by decide) Ta.1 (argsL := []) (S := []) (m_tlen_0 hw hS Ta) pd_13 rfl rfl rfl (by decide) (Nat.le_of_ble_eq_true rfl) (by decide) (by decide) (fun T h1 v1 L1 X q1 => ?_)
  obtain ⟨rfl, rfl⟩ := q1
  show Wp p e below _ (T.setTop (mkF m 4 #[.val (.ref p1), .val (.ref p2), .unset, .unset, .unset, .unset] [(.int (0 : Int32))]))
  refine w_aloadN X dprog_41_13_4 rfl (rfl) ?_
  refine w_callV X dprog_41_13_5 (wd_42 hw) (wd_43 hw) (notFace_of_selects (args := #[]) (mvT X.hZ (wd_45 hw))) (wd_45 hw) (wd_44 hw) (wd_7 hw) (wd_46 hw) (by decide) Tb.1 (argsL := []) (S := [(.int (0 : Int32))]) (m_tlen_3 hw hS Tb) pd_13 rfl rfl rfl (by decide) (Nat.le_of_ble_eq_true rfl) (by decide) (by decide) (fun T h2 v2 L2 X q2 => ?_)
  obtain ⟨rfl, rfl⟩ := q2
  show Wp p e below _ (T.setTop (mkF m 8 #[.val (.ref p1), .val (.ref p2), .unset, .unset, .unset, .unset] [(.int (3 : Int32)), (.int (0 : Int32))]))
  refine w_callS X dprog_41_13_8 (wd_52 hw) (wd_53 hw) (wd_54 hw) (wd_55 hw) (by decide) (argsL := [(.int (0 : Int32)), (.int (3 : Int32))]) (S := []) (m_min hw (r := (0 : Int32)) (by decide)) pd_1 rfl rfl rfl (by decide) (Nat.le_of_ble_eq_true rfl) (by decide) (by decide) (fun T h3 v3 L3 X q3 => ?_)
  obtain ⟨rfl, rfl⟩ := q3
  show Wp p e below _ (T.setTop (mkF m 11 #[.val (.ref p1), .val (.ref p2), .unset, .unset, .unset, .unset] [(.int (0 : Int32))]))
  refine w_istoreN X #[.val (.ref p1), .val (.ref p2), .val (.int (0 : Int32)), .unset, .unset, .unset] dprog_41_13_11 rfl ?_
  refine w_iconst X (0 : Int32) dprog_41_13_12 rfl ?_
  refine w_istoreN X #[.val (.ref p1), .val (.ref p2), .val (.int (0 : Int32)), .val (.int (0 : Int32)), .unset, .unset] dprog_41_13_13 rfl ?_
  refine w_iloadN X dprog_41_13_14 rfl ?_
  refine w_iloadN X dprog_41_13_15 rfl ?_
  refine w_icmpge X dprog_41_13_16 (fun _ => ?_) (fun hc => absurd hc Int32.lt_irrefl)
  refine w_aloadN X dprog_41_13_60 rfl (rfl) ?_
  refine w_callV X dprog_41_13_61 (wd_42 hw) (wd_43 hw) (notFace_of_selects (args := #[]) (mvT X.hZ (wd_45 hw))) (wd_45 hw) (wd_44 hw) (wd_7 hw) (wd_46 hw) (by decide) Ta.1 (argsL := []) (S := []) (m_tlen_0 hw hS Ta) pd_13 rfl rfl rfl (by decide) (Nat.le_of_ble_eq_true rfl) (by decide) (by decide) (fun T h4 v4 L4 X q4 => ?_)
  obtain ⟨rfl, rfl⟩ := q4
  show Wp p e below _ (T.setTop (mkF m 64 #[.val (.ref p1), .val (.ref p2), .val (.int (0 : Int32)), .val (.int (0 : Int32)), .unset, .unset] [(.int (0 : Int32))]))
  refine w_aloadN X dprog_41_13_64 rfl (rfl) ?_
  refine w_callV X dprog_41_13_65 (wd_42 hw) (wd_43 hw) (notFace_of_selects (args := #[]) (mvT X.hZ (wd_45 hw))) (wd_45 hw) (wd_44 hw) (wd_7 hw) (wd_46 hw) (by decide) Tb.1 (argsL := []) (S := [(.int (0 : Int32))]) (m_tlen_3 hw hS Tb) pd_13 rfl rfl rfl (by decide) (Nat.le_of_ble_eq_true rfl) (by decide) (by decide) (fun T h5 v5 L5 X q5 => ?_)
  obtain ⟨rfl, rfl⟩ := q5
  show Wp p e below _ (T.setTop (mkF m 68 #[.val (.ref p1), .val (.ref p2), .val (.int (0 : Int32)), .val (.int (0 : Int32)), .unset, .unset] [(.int (3 : Int32)), (.int (0 : Int32))]))
  refine w_callS X dprog_41_13_68 (wd_56 hw) (wd_57 hw) (wd_58 hw) (wd_59 hw) (by decide) (argsL := [(.int (0 : Int32)), (.int (3 : Int32))]) (S := []) (m_ic hw (x0 := (0 : Int32)) (y0 := (3 : Int32))) pd_1 rfl rfl rfl (by decide) (Nat.le_of_ble_eq_true rfl) (by decide) (by decide) (fun T h6 v6 L6 X q6 => ?_)
  obtain ⟨rfl, rfl⟩ := q6
  show Wp p e below _ (T.setTop (mkF m 71 #[.val (.ref p1), .val (.ref p2), .val (.int (0 : Int32)), .val (.int (0 : Int32)), .unset, .unset] [(.int (own_icmp (0 : Int32) (3 : Int32)))]))
  exact w_retI X dprog_41_13_71 ⟨by simp only [own_cu, *, if_true, if_false], rfl⟩ (by decide) (by decide)
set_option maxRecDepth 65536 in
set_option maxHeartbeats 40000000 in
theorem m_cu_1_0 {l : Launch} {Z : State} {a0 : Array Value} {n0 : Nat} (hw : ∀ d ∈ tables_1, d.before a0 Z = true) {h0 : Heap} {zc : Int32} {fm : Value} {p1 p2 t1 t2 : Addr} {a0 : Int32} (hU : own_U Z zc fm) (Ta : Txt Z h0 p1 t1 [a0]) (Tb : Txt Z h0 p2 t2 []) (ha0 : nar .char a0 = a0) :
    Does l Z n0 ⟨"com/example/whole_session/wholesession/Run", "compareUtf8", "(Ljava/lang/String;Ljava/lang/String;)I"⟩ prog_41_method_13_code 6 (some .int) [] { frames := 2, cells := 0, slots := 0, locals := 26 } #[(.ref p1), (.ref p2)] h0 (fun v h => v = some (.int (own_cu [a0] [] (1 : Int32) (0 : Int32))) ∧ h0 = h) := by
  refine Does.start (plainFor_of_name pn_3) ?_
  obtain ⟨hS, S_ad, S_hi, S_lo⟩ := id hU
  obtain ⟨S_zc, hzc, S_fm, hfm⟩ := id hS
  intro p e s m below meth c T X
  replace X : Sd Z n0 0 prog_41_method_13_code 6 "com/example/whole_session/wholesession/Run" "compareUtf8" (some .int) h0 p l e { frames := 2, cells := 0, slots := 0, locals := 26 } s m #[(.ref p1), (.ref p2)] below meth c T [] 0 0 := X
  refine Wp.cast (g' := mkF m 0 #[.val (.ref p1), .val (.ref p2), .unset, .unset, .unset, .unset] []) (by first | (simp [entryFrame, mkF, argsToLocals, Value.category, maxLocals]; done) | rfl) ?_
  refine w_aloadN X dprog_41_13_0 rfl (rfl) ?_
  refine w_callV X dprog_41_13_1 (wd_42 hw) (wd_43 hw) (notFace_of_selects (args := #[]) (mvT X.hZ (wd_45 hw))) (wd_45 hw) (wd_44 hw) (wd_7 hw) (wd_46 hw) (by decide) Ta.1 (argsL := []) (S := []) (m_tlen_1 hw hS Ta) pd_13 rfl rfl rfl (by decide) (Nat.le_of_ble_eq_true rfl) (by decide) (by decide) (fun T h1 v1 L1 X q1 => ?_)
  obtain ⟨rfl, rfl⟩ := q1
  show Wp p e below _ (T.setTop (mkF m 4 #[.val (.ref p1), .val (.ref p2), .unset, .unset, .unset, .unset] [(.int (1 : Int32))]))
  refine w_aloadN X dprog_41_13_4 rfl (rfl) ?_
  refine w_callV X dprog_41_13_5 (wd_42 hw) (wd_43 hw) (notFace_of_selects (args := #[]) (mvT X.hZ (wd_45 hw))) (wd_45 hw) (wd_44 hw) (wd_7 hw) (wd_46 hw) (by decide) Tb.1 (argsL := []) (S := [(.int (1 : Int32))]) (m_tlen_0 hw hS Tb) pd_13 rfl rfl rfl (by decide) (Nat.le_of_ble_eq_true rfl) (by decide) (by decide) (fun T h2 v2 L2 X q2 => ?_)
  obtain ⟨rfl, rfl⟩ := q2
  show Wp p e below _ (T.setTop (mkF m 8 #[.val (.ref p1), .val (.ref p2), .unset, .unset, .unset, .unset] [(.int (0 : Int32)), (.int (1 : Int32))]))
  refine w_callS X dprog_41_13_8 (wd_52 hw) (wd_53 hw) (wd_54 hw) (wd_55 hw) (by decide) (argsL := [(.int (1 : Int32)), (.int (0 : Int32))]) (S := []) (m_min hw (r := (0 : Int32)) (by decide)) pd_1 rfl rfl rfl (by decide) (Nat.le_of_ble_eq_true rfl) (by decide) (by decide) (fun T h3 v3 L3 X q3 => ?_)
  obtain ⟨rfl, rfl⟩ := q3
  show Wp p e below _ (T.setTop (mkF m 11 #[.val (.ref p1), .val (.ref p2), .unset, .unset, .unset, .unset] [(.int (0 : Int32))]))
  refine w_istoreN X #[.val (.ref p1), .val (.ref p2), .val (.int (0 : Int32)), .unset, .unset, .unset] dprog_41_13_11 rfl ?_
  refine w_iconst X (0 : Int32) dprog_41_13_12 rfl ?_
  refine w_istoreN X #[.val (.ref p1), .val (.ref p2), .val (.int (0 : Int32)), .val (.int (0 : Int32)), .unset, .unset] dprog_41_13_13 rfl ?_
  refine w_iloadN X dprog_41_13_14 rfl ?_
  refine w_iloadN X dprog_41_13_15 rfl ?_
  refine w_icmpge X dprog_41_13_16 (fun _ => ?_) (fun hc => absurd hc Int32.lt_irrefl)
  refine w_aloadN X dprog_41_13_60 rfl (rfl) ?_
  refine w_callV X dprog_41_13_61 (wd_42 hw) (wd_43 hw) (notFace_of_selects (args := #[]) (mvT X.hZ (wd_45 hw))) (wd_45 hw) (wd_44 hw) (wd_7 hw) (wd_46 hw) (by decide) Ta.1 (argsL := []) (S := []) (m_tlen_1 hw hS Ta) pd_13 rfl rfl rfl (by decide) (Nat.le_of_ble_eq_true rfl) (by decide) (by decide) (fun T h4 v4 L4 X q4 => ?_)
  obtain ⟨rfl, rfl⟩ := q4
  show Wp p e below _ (T.setTop (mkF m 64 #[.val (.ref p1), .val (.ref p2), .val (.int (0 : Int32)), .val (.int (0 : Int32)), .unset, .unset] [(.int (1 : Int32))]))
  refine w_aloadN X dprog_41_13_64 rfl (rfl) ?_
  refine w_callV X dprog_41_13_65 (wd_42 hw) (wd_43 hw) (notFace_of_selects (args := #[]) (mvT X.hZ (wd_45 hw))) (wd_45 hw) (wd_44 hw) (wd_7 hw) (wd_46 hw) (by decide) Tb.1 (argsL := []) (S := [(.int (1 : Int32))]) (m_tlen_0 hw hS Tb) pd_13 rfl rfl rfl (by decide) (Nat.le_of_ble_eq_true rfl) (by decide) (by decide) (fun T h5 v5 L5 X q5 => ?_)
  obtain ⟨rfl, rfl⟩ := q5
  show Wp p e below _ (T.setTop (mkF m 68 #[.val (.ref p1), .val (.ref p2), .val (.int (0 : Int32)), .val (.int (0 : Int32)), .unset, .unset] [(.int (0 : Int32)), (.int (1 : Int32))]))
  refine w_callS X dprog_41_13_68 (wd_56 hw) (wd_57 hw) (wd_58 hw) (wd_59 hw) (by decide) (argsL := [(.int (1 : Int32)), (.int (0 : Int32))]) (S := []) (m_ic hw (x0 := (1 : Int32)) (y0 := (0 : Int32))) pd_1 rfl rfl rfl (by decide) (Nat.le_of_ble_eq_true rfl) (by decide) (by decide) (fun T h6 v6 L6 X q6 => ?_)
  obtain ⟨rfl, rfl⟩ := q6
  show Wp p e below _ (T.setTop (mkF m 71 #[.val (.ref p1), .val (.ref p2), .val (.int (0 : Int32)), .val (.int (0 : Int32)), .unset, .unset] [(.int (own_icmp (1 : Int32) (0 : Int32)))]))
  exact w_retI X dprog_41_13_71 ⟨by simp only [own_cu, *, if_true, if_false], rfl⟩ (by decide) (by decide)
set_option maxRecDepth 65536 in
set_option maxHeartbeats 40000000 in
theorem m_isl {l : Launch} {Z : State} {a0 : Array Value} {n0 : Nat} (hw : ∀ d ∈ tables_1, d.before a0 Z = true) {h0 : Heap} {zc : Int32} {fm : Value} {a : Addr} (hS : own_S Z zc fm) (Ca : Fld Z h0 a "java/lang/String" "coder" "B" (.int (0 : Int32))) :
    Does l Z n0 ⟨"java/lang/String", "isLatin1", "()Z"⟩ jdk_42_method_154_code 1 (some .boolean) [] { frames := 0, cells := 0, slots := 0, locals := 0 } #[(.ref a)] h0 (fun v h => v = some (.int (1 : Int32)) ∧ h0 = h) := by
  refine Does.start (plainFor_of_name pn_4) ?_
  obtain ⟨S_zc, hzc, S_fm, hfm⟩ := id hS
  intro p e s m below meth c T X
  replace X : Sd Z n0 0 jdk_42_method_154_code 1 "java/lang/String" "isLatin1" (some .boolean) h0 p l e { frames := 0, cells := 0, slots := 0, locals := 0 } s m #[(.ref a)] below meth c T [] 0 0 := X
  refine Wp.cast (g' := mkF m 0 #[.val (.ref a)] []) (by first | (simp [entryFrame, mkF, argsToLocals, Value.category, maxLocals]; done) | rfl) ?_
  refine w_getS X djdk_42_154_0 (host := "") (Or.inl (wd_19 hw)) Via.refl (S_zc.ext X.old.2) (fun T X => ?_)
  refine w_ifeq X djdk_42_154_3 (fun hc => absurd hc hzc) (fun _ => ?_)
  refine w_aloadN X djdk_42_154_6 rfl (rfl) ?_
  refine w_getF X djdk_42_154_7 (host := "") (Or.inl (wd_31 hw)) Via.refl Ca (fun T X => ?_)
  refine w_ifne X djdk_42_154_10 (fun hc => absurd rfl hc) (fun _ => ?_)
  refine w_iconst X (1 : Int32) djdk_42_154_13 rfl ?_
  refine w_goto X djdk_42_154_14 ?_
  exact w_ret_boolean X (1 : Int32) (by decide) djdk_42_154_18 ⟨rfl, rfl⟩ (by decide) (by decide)
set_option maxRecDepth 65536 in
set_option maxHeartbeats 40000000 in
theorem m_isl1 {l : Launch} {Z : State} {a0 : Array Value} {n0 : Nat} (hw : ∀ d ∈ tables_1, d.before a0 Z = true) {h0 : Heap} {zc : Int32} {fm : Value} {a : Addr} (hS : own_S Z zc fm) (Ca : Fld Z h0 a "java/lang/String" "coder" "B" (.int (1 : Int32))) :
    Does l Z n0 ⟨"java/lang/String", "isLatin1", "()Z"⟩ jdk_42_method_154_code 1 (some .boolean) [] { frames := 0, cells := 0, slots := 0, locals := 0 } #[(.ref a)] h0 (fun v h => v = some (.int (0 : Int32)) ∧ h0 = h) := by
  refine Does.start (plainFor_of_name pn_4) ?_
  obtain ⟨S_zc, hzc, S_fm, hfm⟩ := id hS
  intro p e s m below meth c T X
  replace X : Sd Z n0 0 jdk_42_method_154_code 1 "java/lang/String" "isLatin1" (some .boolean) h0 p l e { frames := 0, cells := 0, slots := 0, locals := 0 } s m #[(.ref a)] below meth c T [] 0 0 := X
  refine Wp.cast (g' := mkF m 0 #[.val (.ref a)] []) (by first | (simp [entryFrame, mkF, argsToLocals, Value.category, maxLocals]; done) | rfl) ?_
  refine w_getS X djdk_42_154_0 (host := "") (Or.inl (wd_19 hw)) Via.refl (S_zc.ext X.old.2) (fun T X => ?_)
  refine w_ifeq X djdk_42_154_3 (fun hc => absurd hc hzc) (fun _ => ?_)
  refine w_aloadN X djdk_42_154_6 rfl (rfl) ?_
  refine w_getF X djdk_42_154_7 (host := "") (Or.inl (wd_31 hw)) Via.refl Ca (fun T X => ?_)
  refine w_ifne X djdk_42_154_10 (fun _ => ?_) (fun hc => absurd hc (by decide))
  refine w_iconst X (0 : Int32) djdk_42_154_17 rfl ?_
  exact w_ret_boolean X (0 : Int32) (by decide) djdk_42_154_18 ⟨rfl, rfl⟩ (by decide) (by decide)
set_option maxRecDepth 65536 in
set_option maxHeartbeats 40000000 in
theorem m_pci {l : Launch} {Z : State} {a0 : Array Value} {n0 : Nat} (hw : ∀ d ∈ tables_1, d.before a0 Z = true) {h0 : Heap} {i n : Int32} {fm : Value} (hfm : fm.isRef = true) (hi : ¬ i < 0) (hn : i < n) :
    Does l Z n0 ⟨"jdk/internal/util/Preconditions", "checkIndex", "(IILjava/util/function/BiFunction;)I"⟩ jdk_41_method_11_code 3 (some .int) [] { frames := 0, cells := 0, slots := 0, locals := 0 } #[(.int i), (.int n), fm] h0 (fun v h => v = some (.int i) ∧ h0 = h) := by
  refine Does.start (plainFor_of_name pn_6) ?_
  intro p e s m below meth c T X
  replace X : Sd Z n0 0 jdk_41_method_11_code 3 "jdk/internal/util/Preconditions" "checkIndex" (some .int) h0 p l e { frames := 0, cells := 0, slots := 0, locals := 0 } s m #[(.int i), (.int n), fm] below meth c T [] 0 0 := X
  refine Wp.cast (g' := mkF m 0 #[.val (.int i), .val (.int n), .val fm] []) (by rcases ref_cases hfm with rfl | ⟨_, rfl⟩ <;> first | (simp [entryFrame, mkF, argsToLocals, Value.category, maxLocals]; done) | rfl) ?_
  refine w_iloadN X djdk_41_11_0 rfl ?_
  refine w_iflt X djdk_41_11_1 (fun hc => absurd hc hi) (fun _ => ?_)
  refine w_iloadN X djdk_41_11_4 rfl ?_
  refine w_iloadN X djdk_41_11_5 rfl ?_
  refine w_icmplt X djdk_41_11_6 (fun _ => ?_) (fun hc => absurd hn hc)
  refine w_iloadN X djdk_41_11_16 rfl ?_
  exact w_retI X djdk_41_11_17 ⟨rfl, rfl⟩ (by decide) (by decide)
set_option maxRecDepth 65536 in
set_option maxHeartbeats 40000000 in
theorem m_sci {l : Launch} {Z : State} {a0 : Array Value} {n0 : Nat} (hw : ∀ d ∈ tables_1, d.before a0 Z = true) {h0 : Heap} {zc : Int32} {fm : Value} {i n : Int32} (hS : own_S Z zc fm) (hi : ¬ i < 0) (hn : i < n) :
    Does l Z n0 ⟨"java/lang/String", "checkIndex", "(II)V"⟩ jdk_42_method_155_code 2 none [] { frames := 1, cells := 0, slots := 0, locals := 14 } #[(.int i), (.int n)] h0 (fun v h => v = none ∧ h0 = h) := by
  refine Does.start (plainFor_of_name pn_4) ?_
  obtain ⟨S_zc, hzc, S_fm, hfm⟩ := id hS
  intro p e s m below meth c T X
  replace X : Sd Z n0 0 jdk_42_method_155_code 2 "java/lang/String" "checkIndex" none h0 p l e { frames := 1, cells := 0, slots := 0, locals := 14 } s m #[(.int i), (.int n)] below meth c T [] 0 0 := X
  refine Wp.cast (g' := mkF m 0 #[.val (.int i), .val (.int n)] []) (by first | (simp [entryFrame, mkF, argsToLocals, Value.category, maxLocals]; done) | rfl) ?_
  refine w_iloadN X djdk_42_155_0 rfl ?_
  refine w_iloadN X djdk_42_155_1 rfl ?_
  refine w_getS X djdk_42_155_2 (host := "") (Or.inl (wd_84 hw)) Via.refl (S_fm.ext X.old.2) (fun T X => ?_)
  refine w_callS X djdk_42_155_5 (wd_86 hw) (wd_87 hw) (wd_85 hw) (wd_88 hw) (by decide) (argsL := [(.int i), (.int n), fm]) (S := []) (m_pci hw hfm hi hn) pd_14 rfl rfl rfl (by decide) (Nat.le_of_ble_eq_true rfl) (by decide) (by decide) (fun T h1 v1 L1 X q1 => ?_)
  obtain ⟨rfl, rfl⟩ := q1
  show Wp p e below _ (T.setTop (mkF m 8 #[.val (.int i), .val (.int n)] [(.int i)]))
  refine w_pop X djdk_42_155_8 rfl ?_
  exact w_retV X djdk_42_155_9 ⟨rfl, rfl⟩ (by decide) (by decide)
set_option maxRecDepth 65536 in
set_option maxHeartbeats 40000000 in
theorem m_lca_1_0 {l : Launch} {Z : State} {a0 : Array Value} {n0 : Nat} (hw : ∀ d ∈ tables_1, d.before a0 Z = true) {h0 : Heap} {zc : Int32} {fm : Value} {t : Addr} {x0 : Int32} (hS : own_S Z zc fm) (At : Ary Z h0 t .byte [(.int x0)]) :
    Does l Z n0 ⟨"java/lang/StringLatin1", "charAt", "([BI)C"⟩ jdk_43_method_2_code 2 (some .char) [] { frames := 2, cells := 0, slots := 0, locals := 27 } #[(.ref t), (.int (0 : Int32))] h0 (fun v h => v = some (.int ((x0 &&& (255 : Int32)).toUInt32.toUInt16.toUInt32.toInt32)) ∧ h0 = h) := by
  refine Does.start (plainFor_of_name pn_7) ?_
  obtain ⟨S_zc, hzc, S_fm, hfm⟩ := id hS
  intro p e s m below meth c T X
  replace X : Sd Z n0 0 jdk_43_method_2_code 2 "java/lang/StringLatin1" "charAt" (some .char) h0 p l e { frames := 2, cells := 0, slots := 0, locals := 27 } s m #[(.ref t), (.int (0 : Int32))] below meth c T [] 0 0 := X
  refine Wp.cast (g' := mkF m 0 #[.val (.ref t), .val (.int (0 : Int32))] []) (by first | (simp [entryFrame, mkF, argsToLocals, Value.category, maxLocals]; done) | rfl) ?_
  refine w_iloadN X djdk_43_2_0 rfl ?_
  refine w_aloadN X djdk_43_2_1 rfl (rfl) ?_
  refine w_arrlen X (1 : Int32) djdk_43_2_2 At rfl ?_
  refine w_callS X djdk_43_2_3 (wd_81 hw) (wd_82 hw) (wd_7 hw) (wd_83 hw) (by decide) (argsL := [(.int (0 : Int32)), (.int (1 : Int32))]) (S := []) (m_sci hw hS (by decide) (by decide)) pd_15 rfl rfl rfl (by decide) (Nat.le_of_ble_eq_true rfl) (by decide) (by decide) (fun T h1 v1 L1 X q1 => ?_)
  obtain ⟨rfl, rfl⟩ := q1
  show Wp p e below _ (T.setTop (mkF m 6 #[.val (.ref t), .val (.int (0 : Int32))] []))
  refine w_aloadN X djdk_43_2_6 rfl (rfl) ?_
  refine w_iloadN X djdk_43_2_7 rfl ?_
  refine w_baload X djdk_43_2_8 At (by decide) rfl ?_
  refine w_sipush X (255 : Int32) djdk_43_2_9 rfl ?_
  refine w_iand X djdk_43_2_12 ?_
  refine w_i2c X djdk_43_2_13 ?_
  exact w_ret_char X ((x0 &&& (255 : Int32)).toUInt32.toUInt16.toUInt32.toInt32) (own_nar_c _) djdk_43_2_14 ⟨rfl, rfl⟩ (by decide) (by decide)
set_option maxRecDepth 65536 in
set_option maxHeartbeats 40000000 in
theorem m_ulen_1 {l : Launch} {Z : State} {a0 : Array Value} {n0 : Nat} (hw : ∀ d ∈ tables_1, d.before a0 Z = true) {h0 : Heap} {a : Addr} {x0 x1 : Int32} (Aa : Ary Z h0 a .byte [(.int x0), (.int x1)]) :
    Does l Z n0 ⟨"java/lang/StringUTF16", "length", "([B)I"⟩ jdk_52_method_6_code 1 (some .int) [] { frames := 0, cells := 0, slots := 0, locals := 0 } #[(.ref a)] h0 (fun v h => v = some (.int (1 : Int32)) ∧ h0 = h) := by
  refine Does.start (plainFor_of_name pn_5) ?_
  intro p e s m below meth c T X
  replace X : Sd Z n0 0 jdk_52_method_6_code 1 "java/lang/StringUTF16" "length" (some .int) h0 p l e { frames := 0, cells := 0, slots := 0, locals := 0 } s m #[(.ref a)] below meth c T [] 0 0 := X
  refine Wp.cast (g' := mkF m 0 #[.val (.ref a)] []) (by first | (simp [entryFrame, mkF, argsToLocals, Value.category, maxLocals]; done) | rfl) ?_
  refine w_aloadN X djdk_52_6_0 rfl (rfl) ?_
  refine w_arrlen X (2 : Int32) djdk_52_6_1 Aa rfl ?_
  refine w_iconst X (1 : Int32) djdk_52_6_2 rfl ?_
  refine w_ishr X djdk_52_6_3 ?_
  exact w_retI X djdk_52_6_4 ⟨rfl, rfl⟩ (by decide) (by decide)
set_option maxRecDepth 65536 in
set_option maxHeartbeats 40000000 in
theorem m_uci_1_0 {l : Launch} {Z : State} {a0 : Array Value} {n0 : Nat} (hw : ∀ d ∈ tables_1, d.before a0 Z = true) {h0 : Heap} {zc : Int32} {fm : Value} {a : Addr} {x0 x1 : Int32} (hS : own_S Z zc fm) (Aa : Ary Z h0 a .byte [(.int x0), (.int x1)]) :
    Does l Z n0 ⟨"java/lang/StringUTF16", "checkIndex", "(I[B)V"⟩ jdk_52_method_91_code 2 none [] { frames := 2, cells := 0, slots := 0, locals := 27 } #[(.int (0 : Int32)), (.ref a)] h0 (fun v h => v = none ∧ h0 = h) := by
  refine Does.start (plainFor_of_name pn_5) ?_
  obtain ⟨S_zc, hzc, S_fm, hfm⟩ := id hS
  intro p e s m below meth c T X
  replace X : Sd Z n0 0 jdk_52_method_91_code 2 "java/lang/StringUTF16" "checkIndex" none h0 p l e { frames := 2, cells := 0, slots := 0, locals := 27 } s m #[(.int (0 : Int32)), (.ref a)] below meth c T [] 0 0 := X
  refine Wp.cast (g' := mkF m 0 #[.val (.int (0 : Int32)), .val (.ref a)] []) (by first | (simp [entryFrame, mkF, argsToLocals, Value.category, maxLocals]; done) | rfl) ?_
  refine w_iloadN X djdk_52_91_0 rfl ?_
  refine w_aloadN X djdk_52_91_1 rfl (rfl) ?_
  refine w_callS X djdk_52_91_2 (wd_126 hw) (wd_127 hw) (wd_22 hw) (wd_128 hw) (by decide) (argsL := [(.ref a)]) (S := [(.int (0 : Int32))]) (m_ulen_1 hw Aa) pd_16 rfl rfl rfl (by decide) (Nat.le_of_ble_eq_true rfl) (by decide) (by decide) (fun T h1 v1 L1 X q1 => ?_)
  obtain ⟨rfl, rfl⟩ := q1
  show Wp p e below _ (T.setTop (mkF m 5 #[.val (.int (0 : Int32)), .val (.ref a)] [(.int (1 : Int32)), (.int (0 : Int32))]))
  refine w_callS X djdk_52_91_5 (wd_129 hw) (wd_82 hw) (wd_7 hw) (wd_83 hw) (by decide) (argsL := [(.int (0 : Int32)), (.int (1 : Int32))]) (S := []) (m_sci hw hS (by decide) (by decide)) pd_15 rfl rfl rfl (by decide) (Nat.le_of_ble_eq_true rfl) (by decide) (by decide) (fun T h2 v2 L2 X q2 => ?_)
  obtain ⟨rfl, rfl⟩ := q2
  show Wp p e below _ (T.setTop (mkF m 8 #[.val (.int (0 : Int32)), .val (.ref a)] []))
  exact w_retV X djdk_52_91_8 ⟨rfl, rfl⟩ (by decide) (by decide)
set_option maxRecDepth 65536 in
set_option maxHeartbeats 40000000 in
theorem m_uca_1_0 {l : Launch} {Z : State} {a0 : Array Value} {n0 : Nat} (hw : ∀ d ∈ tables_1, d.before a0 Z = true) {h0 : Heap} {zc : Int32} {fm : Value} {a : Addr} {c0 : Int32} (hU : own_U Z zc fm) (Aa : Ary Z h0 a .byte [(.int ((c0 >>> ((0 : Int32) &&& 31)).toInt8.toInt32)), (.int ((c0 >>> ((8 : Int32) &&& 31)).toInt8.toInt32))]) (nk : nar .char c0 = c0) :
    Does l Z n0 ⟨"java/lang/StringUTF16", "charAt", "([BI)C"⟩ jdk_52_method_83_code 2 (some .char) [] { frames := 3, cells := 0, slots := 0, locals := 40 } #[(.ref a), (.int (0 : Int32))] h0 (fun v h => v = some (.int c0) ∧ h0 = h) := by
  refine Does.start (plainFor_of_name pn_5) ?_
  obtain ⟨hS, S_ad, S_hi, S_lo⟩ := id hU
  obtain ⟨S_zc, hzc, S_fm, hfm⟩ := id hS
  intro p e s m below meth c T X
  replace X : Sd Z n0 0 jdk_52_method_83_code 2 "java/lang/StringUTF16" "charAt" (some .char) h0 p l e { frames := 3, cells := 0, slots := 0, locals := 40 } s m #[(.ref a), (.int (0 : Int32))] below meth c T [] 0 0 := X
  refine Wp.cast (g' := mkF m 0 #[.val (.ref a), .val (.int (0 : Int32))] []) (by first | (simp [entryFrame, mkF, argsToLocals, Value.category, maxLocals]; done) | rfl) ?_
  refine w_iloadN X djdk_52_83_0 rfl ?_
  refine w_aloadN X djdk_52_83_1 rfl (rfl) ?_
  refine w_callS X djdk_52_83_2 (wd_123 hw) (wd_124 hw) (wd_22 hw) (wd_125 hw) (by decide) (argsL := [(.int (0 : Int32)), (.ref a)]) (S := []) (m_uci_1_0 hw hS Aa) pd_17 rfl rfl rfl (by decide) (Nat.le_of_ble_eq_true rfl) (by decide) (by decide) (fun T h1 v1 L1 X q1 => ?_)
  obtain ⟨rfl, rfl⟩ := q1
  show Wp p e below _ (T.setTop (mkF m 5 #[.val (.ref a), .val (.int (0 : Int32))] []))
  refine w_aloadN X djdk_52_83_5 rfl (rfl) ?_
  refine w_iloadN X djdk_52_83_6 rfl ?_
  refine w_callS X djdk_52_83_7 (wd_117 hw) (wd_118 hw) (wd_22 hw) (wd_119 hw) (by decide) (argsL := [(.ref a), (.int (0 : Int32))]) (S := []) (m_getc_1_0 hw (r := c0) hU Aa (own_utf nk)) pd_11 rfl rfl rfl (by decide) (Nat.le_of_ble_eq_true rfl) (by decide) (by decide) (fun T h2 v2 L2 X q2 => ?_)
  obtain ⟨rfl, rfl⟩ := q2
  show Wp p e below _ (T.setTop (mkF m 10 #[.val (.ref a), .val (.int (0 : Int32))] [(.int c0)]))
  exact w_ret_char X c0 nk djdk_52_83_10 ⟨rfl, rfl⟩ (by decide) (by decide)
set_option maxRecDepth 65536 in
set_option maxHeartbeats 40000000 in
theorem m_tca_1_0 {l : Launch} {Z : State} {a0 : Array Value} {n0 : Nat} (hw : ∀ d ∈ tables_1, d.before a0 Z = true) {h0 : Heap} {zc : Int32} {fm : Value} {a t : Addr} {c0 : Int32} (hU : own_U Z zc fm) (Tx : Txt Z h0 a t [c0]) (nk : nar .char c0 = c0) :
    Does l Z n0 ⟨"java/lang/String", "charAt", "(I)C"⟩ jdk_42_method_56_code 2 (some .char) [] { frames := 4, cells := 0, slots := 0, locals := 53 } #[(.ref a), (.int (0 : Int32))] h0 (fun v h => v = some (.int c0) ∧ h0 = h) := by
  refine Does.start (plainFor_of_name pn_4) ?_
  obtain ⟨hS, S_ad, S_hi, S_lo⟩ := id hU
  obtain ⟨S_zc, hzc, S_fm, hfm⟩ := id hS
  intro p e s m below meth c T X
  replace X : Sd Z n0 0 jdk_42_method_56_code 2 "java/lang/String" "charAt" (some .char) h0 p l e { frames := 4, cells := 0, slots := 0, locals := 53 } s m #[(.ref a), (.int (0 : Int32))] below meth c T [] 0 0 := X
  refine Wp.cast (g' := mkF m 0 #[.val (.ref a), .val (.int (0 : Int32))] []) (by first | (simp [entryFrame, mkF, argsToLocals, Value.category, maxLocals]; done) | rfl) ?_
  obtain ⟨Ea, Va, hT⟩ := Tx
  rcases hT with ⟨Ca, At, hl⟩ | ⟨Ca, At⟩
  · replace At : Ary Z h0 t .byte [(.int (c0.toInt8.toInt32))] := At
    refine w_aloadN X djdk_42_56_0 rfl (rfl) ?_
    refine w_callV X djdk_42_56_1 (wd_72 hw) (wd_73 hw) (notFace_of_selects (args := #[]) (mvT X.hZ (wd_75 hw))) (wd_75 hw) (wd_74 hw) (wd_7 hw) (wd_76 hw) (by decide) Ea (argsL := []) (S := []) (m_isl hw hS Ca) pd_18 rfl rfl rfl (by decide) (Nat.le_of_ble_eq_true rfl) (by decide) (by decide) (fun T h1 v1 L1 X q1 => ?_)
    obtain ⟨rfl, rfl⟩ := q1
    show Wp p e below _ (T.setTop (mkF m 4 #[.val (.ref a), .val (.int (0 : Int32))] [(.int (1 : Int32))]))
    refine w_ifeq X djdk_42_56_4 (fun hc => absurd hc (by decide)) (fun _ => ?_)
    refine w_aloadN X djdk_42_56_7 rfl (rfl) ?_
    refine w_getF X djdk_42_56_8 (host := "") (Or.inl (wd_33 hw)) Via.refl Va (fun T X => ?_)
    refine w_iloadN X djdk_42_56_11 rfl ?_
    refine w_callS X djdk_42_56_12 (wd_77 hw) (wd_78 hw) (wd_79 hw) (wd_80 hw) (by decide) (argsL := [(.ref t), (.int (0 : Int32))]) (S := []) (m_lca_1_0 hw hS At) pd_11 rfl rfl rfl (by decide) (Nat.le_of_ble_eq_true rfl) (by decide) (by decide) (fun T h2 v2 L2 X q2 => ?_)
    obtain ⟨rfl, rfl⟩ := q2
    show Wp p e below _ (T.setTop (mkF m 15 #[.val (.ref a), .val (.int (0 : Int32))] [(.int (((c0.toInt8.toInt32) &&& (255 : Int32)).toUInt32.toUInt16.toUInt32.toInt32))]))
    exact w_ret_char X (((c0.toInt8.toInt32) &&& (255 : Int32)).toUInt32.toUInt16.toUInt32.toInt32) (own_nar_c _) djdk_42_56_15 ⟨by rw [own_lat nk (hl c0 (List.mem_of_getElem? (i := 0) rfl))], rfl⟩ (by decide) (by decide)
  · replace At : Ary Z h0 t .byte [(.int ((c0 >>> ((0 : Int32) &&& 31)).toInt8.toInt32)), (.int ((c0 >>> ((8 : Int32) &&& 31)).toInt8.toInt32))] := At
    refine w_aloadN X djdk_42_56_0 rfl (rfl) ?_
    refine w_callV X djdk_42_56_1 (wd_72 hw) (wd_73 hw) (notFace_of_selects (args := #[]) (mvT X.hZ (wd_75 hw))) (wd_75 hw) (wd_74 hw) (wd_7 hw) (wd_76 hw) (by decide) Ea (argsL := []) (S := []) (m_isl1 hw hS Ca) pd_18 rfl rfl rfl (by decide) (Nat.le_of_ble_eq_true rfl) (by decide) (by decide) (fun T h3 v3 L3 X q3 => ?_)
    obtain ⟨rfl, rfl⟩ := q3
    show Wp p e below _ (T.setTop (mkF m 4 #[.val (.ref a), .val (.int (0 : Int32))] [(.int (0 : Int32))]))
    refine w_ifeq X djdk_42_56_4 (fun _ => ?_) (fun hc => absurd rfl hc)
    refine w_aloadN X djdk_42_56_16 rfl (rfl) ?_
    refine w_getF X djdk_42_56_17 (host := "") (Or.inl (wd_33 hw)) Via.refl Va (fun T X => ?_)
    refine w_iloadN X djdk_42_56_20 rfl ?_
    refine w_callS X djdk_42_56_21 (wd_120 hw) (wd_121 hw) (wd_22 hw) (wd_122 hw) (by decide) (argsL := [(.ref t), (.int (0 : Int32))]) (S := []) (m_uca_1_0 hw hU At nk) pd_11 rfl rfl rfl (by decide) (Nat.le_of_ble_eq_true rfl) (by decide) (by decide) (fun T h4 v4 L4 X q4 => ?_)
    obtain ⟨rfl, rfl⟩ := q4
    show Wp p e below _ (T.setTop (mkF m 24 #[.val (.ref a), .val (.int (0 : Int32))] [(.int c0)]))
    exact w_ret_char X c0 nk djdk_42_56_24 ⟨rfl, rfl⟩ (by decide) (by decide)
set_option maxRecDepth 65536 in
set_option maxHeartbeats 40000000 in
theorem m_cu_1_1 {l : Launch} {Z : State} {a0 : Array Value} {n0 : Nat} (hw : ∀ d ∈ tables_1, d.before a0 Z = true) {h0 : Heap} {zc : Int32} {fm : Value} {p1 p2 t1 t2 : Addr} {a0 b0 : Int32} (hU : own_U Z zc fm) (Ta : Txt Z h0 p1 t1 [a0]) (Tb : Txt Z h0 p2 t2 [b0]) (ha0 : nar .char a0 = a0) (hb0 : nar .char b0 = b0) :
    Does l Z n0 ⟨"com/example/whole_session/wholesession/Run", "compareUtf8", "(Ljava/lang/String;Ljava/lang/String;)I"⟩ prog_41_method_13_code 6 (some .int) [] { frames := 5, cells := 0, slots := 0, locals := 66 } #[(.ref p1), (.ref p2)] h0 (fun v h => v = some (.int (own_cu [a0] [b0] (1 : Int32) (1 : Int32))) ∧ h0 = h) := by
  refine Does.start (plainFor_of_name pn_3) ?_
  obtain ⟨hS, S_ad, S_hi, S_lo⟩ := id hU
  obtain ⟨S_zc, hzc, S_fm, hfm⟩ := id hS
  intro p e s m below meth c T X
  replace X : Sd Z n0 0 prog_41_method_13_code 6 "com/example/whole_session/wholesession/Run" "compareUtf8" (some .int) h0 p l e { frames := 5, cells := 0, slots := 0, locals := 66 } s m #[(.ref p1), (.ref p2)] below meth c T [] 0 0 := X
  refine Wp.cast (g' := mkF m 0 #[.val (.ref p1), .val (.ref p2), .unset, .unset, .unset, .unset] []) (by first | (simp [entryFrame, mkF, argsToLocals, Value.category, maxLocals]; done) | rfl) ?_
  refine w_aloadN X dprog_41_13_0 rfl (rfl) ?_
  refine w_callV X dprog_41_13_1 (wd_42 hw) (wd_43 hw) (notFace_of_selects (args := #[]) (mvT X.hZ (wd_45 hw))) (wd_45 hw) (wd_44 hw) (wd_7 hw) (wd_46 hw) (by decide) Ta.1 (argsL := []) (S := []) (m_tlen_1 hw hS Ta) pd_13 rfl rfl rfl (by decide) (Nat.le_of_ble_eq_true rfl) (by decide) (by decide) (fun T h1 v1 L1 X q1 => ?_)
  obtain ⟨rfl, rfl⟩ := q1
  show Wp p e below _ (T.setTop (mkF m 4 #[.val (.ref p1), .val (.ref p2), .unset, .unset, .unset, .unset] [(.int (1 : Int32))]))
  refine w_aloadN X dprog_41_13_4 rfl (rfl) ?_
  refine w_callV X dprog_41_13_5 (wd_42 hw) (wd_43 hw) (notFace_of_selects (args := #[]) (mvT X.hZ (wd_45 hw))) (wd_45 hw) (wd_44 hw) (wd_7 hw) (wd_46 hw) (by decide) Tb.1 (argsL := []) (S := [(.int (1 : Int32))]) (m_tlen_1 hw hS Tb) pd_13 rfl rfl rfl (by decide) (Nat.le_of_ble_eq_true rfl) (by decide) (by decide) (fun T h2 v2 L2 X q2 => ?_)
  obtain ⟨rfl, rfl⟩ := q2
  show Wp p e below _ (T.setTop (mkF m 8 #[.val (.ref p1), .val (.ref p2), .unset, .unset, .unset, .unset] [(.int (1 : Int32)), (.int (1 : Int32))]))
  refine w_callS X dprog_41_13_8 (wd_52 hw) (wd_53 hw) (wd_54 hw) (wd_55 hw) (by decide) (argsL := [(.int (1 : Int32)), (.int (1 : Int32))]) (S := []) (m_min hw (r := (1 : Int32)) (by decide)) pd_1 rfl rfl rfl (by decide) (Nat.le_of_ble_eq_true rfl) (by decide) (by decide) (fun T h3 v3 L3 X q3 => ?_)
  obtain ⟨rfl, rfl⟩ := q3
  show Wp p e below _ (T.setTop (mkF m 11 #[.val (.ref p1), .val (.ref p2), .unset, .unset, .unset, .unset] [(.int (1 : Int32))]))
  refine w_istoreN X #[.val (.ref p1), .val (.ref p2), .val (.int (1 : Int32)), .unset, .unset, .unset] dprog_41_13_11 rfl ?_
  refine w_iconst X (0 : Int32) dprog_41_13_12 rfl ?_
  refine w_istoreN X #[.val (.ref p1), .val (.ref p2), .val (.int (1 : Int32)), .val (.int (0 : Int32)), .unset, .unset] dprog_41_13_13 rfl ?_
  refine w_iloadN X dprog_41_13_14 rfl ?_
  refine w_iloadN X dprog_41_13_15 rfl ?_
  refine w_icmpge X dprog_41_13_16 (fun hc => absurd (by decide) hc) (fun _ => ?_)
  refine w_aloadN X dprog_41_13_19 rfl (rfl) ?_
  refine w_iloadN X dprog_41_13_20 rfl ?_
  refine w_callV X dprog_41_13_21 (wd_67 hw) (wd_68 hw) (notFace_of_selects (args := #[]) (mvT X.hZ (wd_70 hw))) (wd_70 hw) (wd_69 hw) (wd_7 hw) (wd_71 hw) (by decide) Ta.1 (argsL := [(.int (0 : Int32))]) (S := []) (m_tca_1_0 hw hU Ta ha0) pd_19 rfl rfl rfl (by decide) (Nat.le_of_ble_eq_true rfl) (by decide) (by decide) (fun T h4 v4 L4 X q4 => ?_)
  obtain ⟨rfl, rfl⟩ := q4
  show Wp p e below _ (T.setTop (mkF m 24 #[.val (.ref p1), .val (.ref p2), .val (.int (1 : Int32)), .val (.int (0 : Int32)), .unset, .unset] [(.int a0)]))
  refine w_istore X #[.val (.ref p1), .val (.ref p2), .val (.int (1 : Int32)), .val (.int (0 : Int32)), .val (.int a0), .unset] dprog_41_13_24 rfl ?_
  refine w_aloadN X dprog_41_13_26 rfl (rfl) ?_
  refine w_iloadN X dprog_41_13_27 rfl ?_
  refine w_callV X dprog_41_13_28 (wd_67 hw) (wd_68 hw) (notFace_of_selects (args := #[]) (mvT X.hZ (wd_70 hw))) (wd_70 hw) (wd_69 hw) (wd_7 hw) (wd_71 hw) (by decide) Tb.1 (argsL := [(.int (0 : Int32))]) (S := []) (m_tca_1_0 hw hU Tb hb0) pd_19 rfl rfl rfl (by decide) (Nat.le_of_ble_eq_true rfl) (by decide) (by decide) (fun T h5 v5 L5 X q5 => ?_)
  obtain ⟨rfl, rfl⟩ := q5
  show Wp p e below _ (T.setTop (mkF m 31 #[.val (.ref p1), .val (.ref p2), .val (.int (1 : Int32)), .val (.int (0 : Int32)), .val (.int a0), .unset] [(.int b0)]))
  refine w_istore X #[.val (.ref p1), .val (.ref p2), .val (.int (1 : Int32)), .val (.int (0 : Int32)), .val (.int a0), .val (.int b0)] dprog_41_13_31 rfl ?_
  refine w_iload X dprog_41_13_33 rfl ?_
  refine w_iload X dprog_41_13_35 rfl ?_
  refine w_icmpeq X dprog_41_13_37 (fun (hc37 : a0 = b0) => ?_) (fun (hc37 : ¬ a0 = b0) => ?_)
  · refine w_iinc X (1 : Int32) #[.val (.ref p1), .val (.ref p2), .val (.int (1 : Int32)), .val (.int (1 : Int32)), .val (.int a0), .val (.int b0)] dprog_41_13_54 rfl rfl rfl ?_
    refine w_goto X dprog_41_13_57 ?_
    refine w_iloadN X dprog_41_13_14 rfl ?_
    refine w_iloadN X dprog_41_13_15 rfl ?_
    refine w_icmpge X dprog_41_13_16 (fun _ => ?_) (fun hc => absurd hc Int32.lt_irrefl)
    refine w_aloadN X dprog_41_13_60 rfl (rfl) ?_
    refine w_callV X dprog_41_13_61 (wd_42 hw) (wd_43 hw) (notFace_of_selects (args := #[]) (mvT X.hZ (wd_45 hw))) (wd_45 hw) (wd_44 hw) (wd_7 hw) (wd_46 hw) (by decide) Ta.1 (argsL := []) (S := []) (m_tlen_1 hw hS Ta) pd_13 rfl rfl rfl (by decide) (Nat.le_of_ble_eq_true rfl) (by decide) (by decide) (fun T h6 v6 L6 X q6 => ?_)
    obtain ⟨rfl, rfl⟩ := q6
    show Wp p e below _ (T.setTop (mkF m 64 #[.val (.ref p1), .val (.ref p2), .val (.int (1 : Int32)), .val (.int (1 : Int32)), .val (.int a0), .val (.int b0)] [(.int (1 : Int32))]))
    refine w_aloadN X dprog_41_13_64 rfl (rfl) ?_
    refine w_callV X dprog_41_13_65 (wd_42 hw) (wd_43 hw) (notFace_of_selects (args := #[]) (mvT X.hZ (wd_45 hw))) (wd_45 hw) (wd_44 hw) (wd_7 hw) (wd_46 hw) (by decide) Tb.1 (argsL := []) (S := [(.int (1 : Int32))]) (m_tlen_1 hw hS Tb) pd_13 rfl rfl rfl (by decide) (Nat.le_of_ble_eq_true rfl) (by decide) (by decide) (fun T h7 v7 L7 X q7 => ?_)
    obtain ⟨rfl, rfl⟩ := q7
    show Wp p e below _ (T.setTop (mkF m 68 #[.val (.ref p1), .val (.ref p2), .val (.int (1 : Int32)), .val (.int (1 : Int32)), .val (.int a0), .val (.int b0)] [(.int (1 : Int32)), (.int (1 : Int32))]))
    refine w_callS X dprog_41_13_68 (wd_56 hw) (wd_57 hw) (wd_58 hw) (wd_59 hw) (by decide) (argsL := [(.int (1 : Int32)), (.int (1 : Int32))]) (S := []) (m_ic hw (x0 := (1 : Int32)) (y0 := (1 : Int32))) pd_1 rfl rfl rfl (by decide) (Nat.le_of_ble_eq_true rfl) (by decide) (by decide) (fun T h8 v8 L8 X q8 => ?_)
    obtain ⟨rfl, rfl⟩ := q8
    show Wp p e below _ (T.setTop (mkF m 71 #[.val (.ref p1), .val (.ref p2), .val (.int (1 : Int32)), .val (.int (1 : Int32)), .val (.int a0), .val (.int b0)] [(.int (own_icmp (1 : Int32) (1 : Int32)))]))
    exact w_retI X dprog_41_13_71 ⟨by simp only [own_cu, *, if_true, if_false], rfl⟩ (by decide) (by decide)
  · refine w_iload X dprog_41_13_40 rfl ?_
    refine w_callS X dprog_41_13_42 (wd_89 hw) (wd_90 hw) (wd_40 hw) (wd_91 hw) (by decide) (argsL := [(.int a0)]) (S := []) (m_cpo hw (x0 := a0)) pd_2 rfl rfl rfl (by decide) (Nat.le_of_ble_eq_true rfl) (by decide) (by decide) (fun T h9 v9 L9 X q9 => ?_)
    obtain ⟨rfl, rfl⟩ := q9
    show Wp p e below _ (T.setTop (mkF m 45 #[.val (.ref p1), .val (.ref p2), .val (.int (1 : Int32)), .val (.int (0 : Int32)), .val (.int a0), .val (.int b0)] [(.int (own_cpo a0))]))
    refine w_iload X dprog_41_13_45 rfl ?_
    refine w_callS X dprog_41_13_47 (wd_89 hw) (wd_90 hw) (wd_40 hw) (wd_91 hw) (by decide) (argsL := [(.int b0)]) (S := [(.int (own_cpo a0))]) (m_cpo hw (x0 := b0)) pd_2 rfl rfl rfl (by decide) (Nat.le_of_ble_eq_true rfl) (by decide) (by decide) (fun T h10 v10 L10 X q10 => ?_)
    obtain ⟨rfl, rfl⟩ := q10
    show Wp p e below _ (T.setTop (mkF m 50 #[.val (.ref p1), .val (.ref p2), .val (.int (1 : Int32)), .val (.int (0 : Int32)), .val (.int a0), .val (.int b0)] [(.int (own_cpo b0)), (.int (own_cpo a0))]))
    refine w_callS X dprog_41_13_50 (wd_56 hw) (wd_57 hw) (wd_58 hw) (wd_59 hw) (by decide) (argsL := [(.int (own_cpo a0)), (.int (own_cpo b0))]) (S := []) (m_ic hw (x0 := (own_cpo a0)) (y0 := (own_cpo b0))) pd_1 rfl rfl rfl (by decide) (Nat.le_of_ble_eq_true rfl) (by decide) (by decide) (fun T h11 v11 L11 X q11 => ?_)
    obtain ⟨rfl, rfl⟩ := q11
    show Wp p e below _ (T.setTop (mkF m 53 #[.val (.ref p1), .val (.ref p2), .val (.int (1 : Int32)), .val (.int (0 : Int32)), .val (.int a0), .val (.int b0)] [(.int (own_icmp (own_cpo a0) (own_cpo b0)))]))
    exact w_retI X dprog_41_13_53 ⟨by simp only [own_cu, *, if_true, if_false], rfl⟩ (by decide) (by decide)
set_option maxRecDepth 65536 in
set_option maxHeartbeats 40000000 in
theorem m_lca_2_0 {l : Launch} {Z : State} {a0 : Array Value} {n0 : Nat} (hw : ∀ d ∈ tables_1, d.before a0 Z = true) {h0 : Heap} {zc : Int32} {fm : Value} {t : Addr} {x0 x1 : Int32} (hS : own_S Z zc fm) (At : Ary Z h0 t .byte [(.int x0), (.int x1)]) :
    Does l Z n0 ⟨"java/lang/StringLatin1", "charAt", "([BI)C"⟩ jdk_43_method_2_code 2 (some .char) [] { frames := 2, cells := 0, slots := 0, locals := 27 } #[(.ref t), (.int (0 : Int32))] h0 (fun v h => v = some (.int ((x0 &&& (255 : Int32)).toUInt32.toUInt16.toUInt32.toInt32)) ∧ h0 = h) := by
  refine Does.start (plainFor_of_name pn_7) ?_
  obtain ⟨S_zc, hzc, S_fm, hfm⟩ := id hS
  intro p e s m below meth c T X
  replace X : Sd Z n0 0 jdk_43_method_2_code 2 "java/lang/StringLatin1" "charAt" (some .char) h0 p l e { frames := 2, cells := 0, slots := 0, locals := 27 } s m #[(.ref t), (.int (0 : Int32))] below meth c T [] 0 0 := X
  refine Wp.cast (g' := mkF m 0 #[.val (.ref t), .val (.int (0 : Int32))] []) (by first | (simp [entryFrame, mkF, argsToLocals, Value.category, maxLocals]; done) | rfl) ?_
  refine w_iloadN X djdk_43_2_0 rfl ?_
  refine w_aloadN X djdk_43_2_1 rfl (rfl) ?_
  refine w_arrlen X (2 : Int32) djdk_43_2_2 At rfl ?_
  refine w_callS X djdk_43_2_3 (wd_81 hw) (wd_82 hw) (wd_7 hw) (wd_83 hw) (by decide) (argsL := [(.int (0 : Int32)), (.int (2 : Int32))]) (S := []) (m_sci hw hS (by decide) (by decide)) pd_15 rfl rfl rfl (by decide) (Nat.le_of_ble_eq_true rfl) (by decide) (by decide) (fun T h1 v1 L1 X q1 => ?_)
  obtain ⟨rfl, rfl⟩ := q1
  show Wp p e below _ (T.setTop (mkF m 6 #[.val (.ref t), .val (.int (0 : Int32))] []))
  refine w_aloadN X djdk_43_2_6 rfl (rfl) ?_
  refine w_iloadN X djdk_43_2_7 rfl ?_
  refine w_baload X djdk_43_2_8 At (by decide) rfl ?_
  refine w_sipush X (255 : Int32) djdk_43_2_9 rfl ?_
  refine w_iand X djdk_43_2_12 ?_
  refine w_i2c X djdk_43_2_13 ?_
  exact w_ret_char X ((x0 &&& (255 : Int32)).toUInt32.toUInt16.toUInt32.toInt32) (own_nar_c _) djdk_43_2_14 ⟨rfl, rfl⟩ (by decide) (by decide)
set_option maxRecDepth 65536 in
set_option maxHeartbeats 40000000 in
theorem m_ulen_2 {l : Launch} {Z : State} {a0 : Array Value} {n0 : Nat} (hw : ∀ d ∈ tables_1, d.before a0 Z = true) {h0 : Heap} {a : Addr} {x0 x1 x2 x3 : Int32} (Aa : Ary Z h0 a .byte [(.int x0), (.int x1), (.int x2), (.int x3)]) :
    Does l Z n0 ⟨"java/lang/StringUTF16", "length", "([B)I"⟩ jdk_52_method_6_code 1 (some .int) [] { frames := 0, cells := 0, slots := 0, locals := 0 } #[(.ref a)] h0 (fun v h => v = some (.int (2 : Int32)) ∧ h0 = h) := by
  refine Does.start (plainFor_of_name pn_5) ?_
  intro p e s m below meth c T X
  replace X : Sd Z n0 0 jdk_52_method_6_code 1 "java/lang/StringUTF16" "length" (some .int) h0 p l e { frames := 0, cells := 0, slots := 0, locals := 0 } s m #[(.ref a)] below meth c T [] 0 0 := X
  refine Wp.cast (g' := mkF m 0 #[.val (.ref a)] []) (by first | (simp [entryFrame, mkF, argsToLocals, Value.category, maxLocals]; done) | rfl) ?_
  refine w_aloadN X djdk_52_6_0 rfl (rfl) ?_
  refine w_arrlen X (4 : Int32) djdk_52_6_1 Aa rfl ?_
  refine w_iconst X (1 : Int32) djdk_52_6_2 rfl ?_
  refine w_ishr X djdk_52_6_3 ?_
  exact w_retI X djdk_52_6_4 ⟨rfl, rfl⟩ (by decide) (by decide)
set_option maxRecDepth 65536 in
set_option maxHeartbeats 40000000 in
theorem m_uci_2_0 {l : Launch} {Z : State} {a0 : Array Value} {n0 : Nat} (hw : ∀ d ∈ tables_1, d.before a0 Z = true) {h0 : Heap} {zc : Int32} {fm : Value} {a : Addr} {x0 x1 x2 x3 : Int32} (hS : own_S Z zc fm) (Aa : Ary Z h0 a .byte [(.int x0), (.int x1), (.int x2), (.int x3)]) :
    Does l Z n0 ⟨"java/lang/StringUTF16", "checkIndex", "(I[B)V"⟩ jdk_52_method_91_code 2 none [] { frames := 2, cells := 0, slots := 0, locals := 27 } #[(.int (0 : Int32)), (.ref a)] h0 (fun v h => v = none ∧ h0 = h) := by
  refine Does.start (plainFor_of_name pn_5) ?_
  obtain ⟨S_zc, hzc, S_fm, hfm⟩ := id hS
  intro p e s m below meth c T X
  replace X : Sd Z n0 0 jdk_52_method_91_code 2 "java/lang/StringUTF16" "checkIndex" none h0 p l e { frames := 2, cells := 0, slots := 0, locals := 27 } s m #[(.int (0 : Int32)), (.ref a)] below meth c T [] 0 0 := X
  refine Wp.cast (g' := mkF m 0 #[.val (.int (0 : Int32)), .val (.ref a)] []) (by first | (simp [entryFrame, mkF, argsToLocals, Value.category, maxLocals]; done) | rfl) ?_
  refine w_iloadN X djdk_52_91_0 rfl ?_
  refine w_aloadN X djdk_52_91_1 rfl (rfl) ?_
  refine w_callS X djdk_52_91_2 (wd_126 hw) (wd_127 hw) (wd_22 hw) (wd_128 hw) (by decide) (argsL := [(.ref a)]) (S := [(.int (0 : Int32))]) (m_ulen_2 hw Aa) pd_16 rfl rfl rfl (by decide) (Nat.le_of_ble_eq_true rfl) (by decide) (by decide) (fun T h1 v1 L1 X q1 => ?_)
  obtain ⟨rfl, rfl⟩ := q1
  show Wp p e below _ (T.setTop (mkF m 5 #[.val (.int (0 : Int32)), .val (.ref a)] [(.int (2 : Int32)), (.int (0 : Int32))]))
  refine w_callS X djdk_52_91_5 (wd_129 hw) (wd_82 hw) (wd_7 hw) (wd_83 hw) (by decide) (argsL := [(.int (0 : Int32)), (.int (2 : Int32))]) (S := []) (m_sci hw hS (by decide) (by decide)) pd_15 rfl rfl rfl (by decide) (Nat.le_of_ble_eq_true rfl) (by decide) (by decide) (fun T h2 v2 L2 X q2 => ?_)
  obtain ⟨rfl, rfl⟩ := q2
  show Wp p e below _ (T.setTop (mkF m 8 #[.val (.int (0 : Int32)), .val (.ref a)] []))
  exact w_retV X djdk_52_91_8 ⟨rfl, rfl⟩ (by decide) (by decide)
set_option maxRecDepth 65536 in
set_option maxHeartbeats 40000000 in
theorem m_uca_2_0 {l : Launch} {Z : State} {a0 : Array Value} {n0 : Nat} (hw : ∀ d ∈ tables_1, d.before a0 Z = true) {h0 : Heap} {zc : Int32} {fm : Value} {a : Addr} {c0 c1 : Int32} (hU : own_U Z zc fm) (Aa : Ary Z h0 a .byte [(.int ((c0 >>> ((0 : Int32) &&& 31)).toInt8.toInt32)), (.int ((c0 >>> ((8 : Int32) &&& 31)).toInt8.toInt32)), (.int ((c1 >>> ((0 : Int32) &&& 31)).toInt8.toInt32)), (.int ((c1 >>> ((8 : Int32) &&& 31)).toInt8.toInt32))]) (nk : nar .char c0 = c0) :
    Does l Z n0 ⟨"java/lang/StringUTF16", "charAt", "([BI)C"⟩ jdk_52_method_83_code 2 (some .char) [] { frames := 3, cells := 0, slots := 0, locals := 40 } #[(.ref a), (.int (0 : Int32))] h0 (fun v h => v = some (.int c0) ∧ h0 = h) := by
  refine Does.start (plainFor_of_name pn_5) ?_
  obtain ⟨hS, S_ad, S_hi, S_lo⟩ := id hU
  obtain ⟨S_zc, hzc, S_fm, hfm⟩ := id hS
  intro p e s m below meth c T X
  replace X : Sd Z n0 0 jdk_52_method_83_code 2 "java/lang/StringUTF16" "charAt" (some .char) h0 p l e { frames := 3, cells := 0, slots := 0, locals := 40 } s m #[(.ref a), (.int (0 : Int32))] below meth c T [] 0 0 := X
  refine Wp.cast (g' := mkF m 0 #[.val (.ref a), .val (.int (0 : Int32))] []) (by first | (simp [entryFrame, mkF, argsToLocals, Value.category, maxLocals]; done) | rfl) ?_
  refine w_iloadN X djdk_52_83_0 rfl ?_
  refine w_aloadN X djdk_52_83_1 rfl (rfl) ?_
  refine w_callS X djdk_52_83_2 (wd_123 hw) (wd_124 hw) (wd_22 hw) (wd_125 hw) (by decide) (argsL := [(.int (0 : Int32)), (.ref a)]) (S := []) (m_uci_2_0 hw hS Aa) pd_17 rfl rfl rfl (by decide) (Nat.le_of_ble_eq_true rfl) (by decide) (by decide) (fun T h1 v1 L1 X q1 => ?_)
  obtain ⟨rfl, rfl⟩ := q1
  show Wp p e below _ (T.setTop (mkF m 5 #[.val (.ref a), .val (.int (0 : Int32))] []))
  refine w_aloadN X djdk_52_83_5 rfl (rfl) ?_
  refine w_iloadN X djdk_52_83_6 rfl ?_
  refine w_callS X djdk_52_83_7 (wd_117 hw) (wd_118 hw) (wd_22 hw) (wd_119 hw) (by decide) (argsL := [(.ref a), (.int (0 : Int32))]) (S := []) (m_getc_2_0 hw (r := c0) hU Aa (own_utf nk)) pd_11 rfl rfl rfl (by decide) (Nat.le_of_ble_eq_true rfl) (by decide) (by decide) (fun T h2 v2 L2 X q2 => ?_)
  obtain ⟨rfl, rfl⟩ := q2
  show Wp p e below _ (T.setTop (mkF m 10 #[.val (.ref a), .val (.int (0 : Int32))] [(.int c0)]))
  exact w_ret_char X c0 nk djdk_52_83_10 ⟨rfl, rfl⟩ (by decide) (by decide)
set_option maxRecDepth 65536 in
set_option maxHeartbeats 40000000 in
theorem m_tca_2_0 {l : Launch} {Z : State} {a0 : Array Value} {n0 : Nat} (hw : ∀ d ∈ tables_1, d.before a0 Z = true) {h0 : Heap} {zc : Int32} {fm : Value} {a t : Addr} {c0 c1 : Int32} (hU : own_U Z zc fm) (Tx : Txt Z h0 a t [c0, c1]) (nk : nar .char c0 = c0) :
    Does l Z n0 ⟨"java/lang/String", "charAt", "(I)C"⟩ jdk_42_method_56_code 2 (some .char) [] { frames := 4, cells := 0, slots := 0, locals := 53 } #[(.ref a), (.int (0 : Int32))] h0 (fun v h => v = some (.int c0) ∧ h0 = h) := by
  refine Does.start (plainFor_of_name pn_4) ?_
  obtain ⟨hS, S_ad, S_hi, S_lo⟩ := id hU
  obtain ⟨S_zc, hzc, S_fm, hfm⟩ := id hS
  intro p e s m below meth c T X
  replace X : Sd Z n0 0 jdk_42_method_56_code 2 "java/lang/String" "charAt" (some .char) h0 p l e { frames := 4, cells := 0, slots := 0, locals := 53 } s m #[(.ref a), (.int (0 : Int32))] below meth c T [] 0 0 := X
  refine Wp.cast (g' := mkF m 0 #[.val (.ref a), .val (.int (0 : Int32))] []) (by first | (simp [entryFrame, mkF, argsToLocals, Value.category, maxLocals]; done) | rfl) ?_
  obtain ⟨Ea, Va, hT⟩ := Tx
  rcases hT with ⟨Ca, At, hl⟩ | ⟨Ca, At⟩
  · replace At : Ary Z h0 t .byte [(.int (c0.toInt8.toInt32)), (.int (c1.toInt8.toInt32))] := At
    refine w_aloadN X djdk_42_56_0 rfl (rfl) ?_
    refine w_callV X djdk_42_56_1 (wd_72 hw) (wd_73 hw) (notFace_of_selects (args := #[]) (mvT X.hZ (wd_75 hw))) (wd_75 hw) (wd_74 hw) (wd_7 hw) (wd_76 hw) (by decide) Ea (argsL := []) (S := []) (m_isl hw hS Ca) pd_18 rfl rfl rfl (by decide) (Nat.le_of_ble_eq_true rfl) (by decide) (by decide) (fun T h1 v1 L1 X q1 => ?_)
    obtain ⟨rfl, rfl⟩ := q1
    show Wp p e below _ (T.setTop (mkF m 4 #[.val (.ref a), .val (.int (0 : Int32))] [(.int (1 : Int32))]))
    refine w_ifeq X djdk_42_56_4 (fun hc => absurd hc (by decide)) (fun _ => ?_)
    refine w_aloadN X djdk_42_56_7 rfl (rfl) ?_
    refine w_getF X djdk_42_56_8 (host := "") (Or.inl (wd_33 hw)) Via.refl Va (fun T X => ?_)
    refine w_iloadN X djdk_42_56_11 rfl ?_
    refine w_callS X djdk_42_56_12 (wd_77 hw) (wd_78 hw) (wd_79 hw) (wd_80 hw) (by decide) (argsL := [(.ref t), (.int (0 : Int32))]) (S := []) (m_lca_2_0 hw hS At) pd_11 rfl rfl rfl (by decide) (Nat.le_of_ble_eq_true rfl) (by decide) (by decide) (fun T h2 v2 L2 X q2 => ?_)
    obtain ⟨rfl, rfl⟩ := q2
    show Wp p e below _ (T.setTop (mkF m 15 #[.val (.ref a), .val (.int (0 : Int32))] [(.int (((c0.toInt8.toInt32) &&& (255 : Int32)).toUInt32.toUInt16.toUInt32.toInt32))]))
    exact w_ret_char X (((c0.toInt8.toInt32) &&& (255 : Int32)).toUInt32.toUInt16.toUInt32.toInt32) (own_nar_c _) djdk_42_56_15 ⟨by rw [own_lat nk (hl c0 (List.mem_of_getElem? (i := 0) rfl))], rfl⟩ (by decide) (by decide)
  · replace At : Ary Z h0 t .byte [(.int ((c0 >>> ((0 : Int32) &&& 31)).toInt8.toInt32)), (.int ((c0 >>> ((8 : Int32) &&& 31)).toInt8.toInt32)), (.int ((c1 >>> ((0 : Int32) &&& 31)).toInt8.toInt32)), (.int ((c1 >>> ((8 : Int32) &&& 31)).toInt8.toInt32))] := At
    refine w_aloadN X djdk_42_56_0 rfl (rfl) ?_
    refine w_callV X djdk_42_56_1 (wd_72 hw) (wd_73 hw) (notFace_of_selects (args := #[]) (mvT X.hZ (wd_75 hw))) (wd_75 hw) (wd_74 hw) (wd_7 hw) (wd_76 hw) (by decide) Ea (argsL := []) (S := []) (m_isl1 hw hS Ca) pd_18 rfl rfl rfl (by decide) (Nat.le_of_ble_eq_true rfl) (by decide) (by decide) (fun T h3 v3 L3 X q3 => ?_)
    obtain ⟨rfl, rfl⟩ := q3
    show Wp p e below _ (T.setTop (mkF m 4 #[.val (.ref a), .val (.int (0 : Int32))] [(.int (0 : Int32))]))
    refine w_ifeq X djdk_42_56_4 (fun _ => ?_) (fun hc => absurd rfl hc)
    refine w_aloadN X djdk_42_56_16 rfl (rfl) ?_
    refine w_getF X djdk_42_56_17 (host := "") (Or.inl (wd_33 hw)) Via.refl Va (fun T X => ?_)
    refine w_iloadN X djdk_42_56_20 rfl ?_
    refine w_callS X djdk_42_56_21 (wd_120 hw) (wd_121 hw) (wd_22 hw) (wd_122 hw) (by decide) (argsL := [(.ref t), (.int (0 : Int32))]) (S := []) (m_uca_2_0 hw hU At nk) pd_11 rfl rfl rfl (by decide) (Nat.le_of_ble_eq_true rfl) (by decide) (by decide) (fun T h4 v4 L4 X q4 => ?_)
    obtain ⟨rfl, rfl⟩ := q4
    show Wp p e below _ (T.setTop (mkF m 24 #[.val (.ref a), .val (.int (0 : Int32))] [(.int c0)]))
    exact w_ret_char X c0 nk djdk_42_56_24 ⟨rfl, rfl⟩ (by decide) (by decide)
set_option maxRecDepth 65536 in
set_option maxHeartbeats 40000000 in
theorem m_cu_1_2 {l : Launch} {Z : State} {a0 : Array Value} {n0 : Nat} (hw : ∀ d ∈ tables_1, d.before a0 Z = true) {h0 : Heap} {zc : Int32} {fm : Value} {p1 p2 t1 t2 : Addr} {a0 b0 b1 : Int32} (hU : own_U Z zc fm) (Ta : Txt Z h0 p1 t1 [a0]) (Tb : Txt Z h0 p2 t2 [b0, b1]) (ha0 : nar .char a0 = a0) (hb0 : nar .char b0 = b0) (hb1 : nar .char b1 = b1) :
    Does l Z n0 ⟨"com/example/whole_session/wholesession/Run", "compareUtf8", "(Ljava/lang/String;Ljava/lang/String;)I"⟩ prog_41_method_13_code 6 (some .int) [] { frames := 5, cells := 0, slots := 0, locals := 66 } #[(.ref p1), (.ref p2)] h0 (fun v h => v = some (.int (own_cu [a0] [b0, b1] (1 : Int32) (2 : Int32))) ∧ h0 = h) := by
  refine Does.start (plainFor_of_name pn_3) ?_
  obtain ⟨hS, S_ad, S_hi, S_lo⟩ := id hU
  obtain ⟨S_zc, hzc, S_fm, hfm⟩ := id hS
  intro p e s m below meth c T X
  replace X : Sd Z n0 0 prog_41_method_13_code 6 "com/example/whole_session/wholesession/Run" "compareUtf8" (some .int) h0 p l e { frames := 5, cells := 0, slots := 0, locals := 66 } s m #[(.ref p1), (.ref p2)] below meth c T [] 0 0 := X
  refine Wp.cast (g' := mkF m 0 #[.val (.ref p1), .val (.ref p2), .unset, .unset, .unset, .unset] []) (by first | (simp [entryFrame, mkF, argsToLocals, Value.category, maxLocals]; done) | rfl) ?_
  refine w_aloadN X dprog_41_13_0 rfl (rfl) ?_
  refine w_callV X dprog_41_13_1 (wd_42 hw) (wd_43 hw) (notFace_of_selects (args := #[]) (mvT X.hZ (wd_45 hw))) (wd_45 hw) (wd_44 hw) (wd_7 hw) (wd_46 hw) (by decide) Ta.1 (argsL := []) (S := []) (m_tlen_1 hw hS Ta) pd_13 rfl rfl rfl (by decide) (Nat.le_of_ble_eq_true rfl) (by decide) (by decide) (fun T h1 v1 L1 X q1 => ?_)
  obtain ⟨rfl, rfl⟩ := q1
  show Wp p e below _ (T.setTop (mkF m 4 #[.val (.ref p1), .val (.ref p2), .unset, .unset, .unset, .unset] [(.int (1 : Int32))]))
  refine w_aloadN X dprog_41_13_4 rfl (rfl) ?_
  refine w_callV X dprog_41_13_5 (wd_42 hw) (wd_43 hw) (notFace_of_selects (args := #[]) (mvT X.hZ (wd_45 hw))) (wd_45 hw) (wd_44 hw) (wd_7 hw) (wd_46 hw) (by decide) Tb.1 (argsL := []) (S := [(.int (1 : Int32))]) (m_tlen_2 hw hS Tb) pd_13 rfl rfl rfl (by decide) (Nat.le_of_ble_eq_true rfl) (by decide) (by decide) (fun T h2 v2 L2 X q2 => ?_)
  obtain ⟨rfl, rfl⟩ := q2
  show Wp p e below _ (T.setTop (mkF m 8 #[.val (.ref p1), .val (.ref p2), .unset, .unset, .unset, .unset] [(.int (2 : Int32)), (.int (1 : Int32))]))
  refine w_callS X dprog_41_13_8 (wd_52 hw) (wd_53 hw) (wd_54 hw) (wd_55 hw) (by decide) (argsL := [(.int (1 : Int32)), (.int (2 : Int32))]) (S := []) (m_min hw (r := (1 : Int32)) (by decide)) pd_1 rfl rfl rfl (by decide) (Nat.le_of_ble_eq_true rfl) (by decide) (by decide) (fun T h3 v3 L3 X q3 => ?_)
  obtain ⟨rfl, rfl⟩ := q3
  show Wp p e below _ (T.setTop (mkF m 11 #[.val (.ref p1), .val (.ref p2), .unset, .unset, .unset, .unset] [(.int (1 : Int32))]))
  refine w_istoreN X #[.val (.ref p1), .val (.ref p2), .val (.int (1 : Int32)), .unset, .unset, .unset] dprog_41_13_11 rfl ?_
  refine w_iconst X (0 : Int32) dprog_41_13_12 rfl ?_
  refine w_istoreN X #[.val (.ref p1), .val (.ref p2), .val (.int (1 : Int32)), .val (.int (0 : Int32)), .unset, .unset] dprog_41_13_13 rfl ?_
  refine w_iloadN X dprog_41_13_14 rfl ?_
  refine w_iloadN X dprog_41_13_15 rfl ?_
  refine w_icmpge X dprog_41_13_16 (fun hc => absurd (by decide) hc) (fun _ => ?_)
  refine w_aloadN X dprog_41_13_19 rfl (rfl) ?_
  refine w_iloadN X dprog_41_13_20 rfl ?_
  refine w_callV X dprog_41_13_21 (wd_67 hw) (wd_68 hw) (notFace_of_selects (args := #[]) (mvT X.hZ (wd_70 hw))) (wd_70 hw) (wd_69 hw) (wd_7 hw) (wd_71 hw) (by decide) Ta.1 (argsL := [(.int (0 : Int32))]) (S := []) (m_tca_1_0 hw hU Ta ha0) pd_19 rfl rfl rfl (by decide) (Nat.le_of_ble_eq_true rfl) (by decide) (by decide) (fun T h4 v4 L4 X q4 => ?_)
  obtain ⟨rfl, rfl⟩ := q4
  show Wp p e below _ (T.setTop (mkF m 24 #[.val (.ref p1), .val (.ref p2), .val (.int (1 : Int32)), .val (.int (0 : Int32)), .unset, .unset] [(.int a0)]))
  refine w_istore X #[.val (.ref p1), .val (.ref p2), .val (.int (1 : Int32)), .val (.int (0 : Int32)), .val (.int a0), .unset] dprog_41_13_24 rfl ?_
  refine w_aloadN X dprog_41_13_26 rfl (rfl) ?_
  refine w_iloadN X dprog_41_13_27 rfl ?_
  refine w_callV X dprog_41_13_28 (wd_67 hw) (wd_68 hw) (notFace_of_selects (args := #[]) (mvT X.hZ (wd_70 hw))) (wd_70 hw) (wd_69 hw) (wd_7 hw) (wd_71 hw) (by decide) Tb.1 (argsL := [(.int (0 : Int32))]) (S := []) (m_tca_2_0 hw hU Tb hb0) pd_19 rfl rfl rfl (by decide) (Nat.le_of_ble_eq_true rfl) (by decide) (by decide) (fun T h5 v5 L5 X q5 => ?_)
  obtain ⟨rfl, rfl⟩ := q5
  show Wp p e below _ (T.setTop (mkF m 31 #[.val (.ref p1), .val (.ref p2), .val (.int (1 : Int32)), .val (.int (0 : Int32)), .val (.int a0), .unset] [(.int b0)]))
  refine w_istore X #[.val (.ref p1), .val (.ref p2), .val (.int (1 : Int32)), .val (.int (0 : Int32)), .val (.int a0), .val (.int b0)] dprog_41_13_31 rfl ?_
  refine w_iload X dprog_41_13_33 rfl ?_
  refine w_iload X dprog_41_13_35 rfl ?_
  refine w_icmpeq X dprog_41_13_37 (fun (hc37 : a0 = b0) => ?_) (fun (hc37 : ¬ a0 = b0) => ?_)
  · refine w_iinc X (1 : Int32) #[.val (.ref p1), .val (.ref p2), .val (.int (1 : Int32)), .val (.int (1 : Int32)), .val (.int a0), .val (.int b0)] dprog_41_13_54 rfl rfl rfl ?_
    refine w_goto X dprog_41_13_57 ?_
    refine w_iloadN X dprog_41_13_14 rfl ?_
    refine w_iloadN X dprog_41_13_15 rfl ?_
    refine w_icmpge X dprog_41_13_16 (fun _ => ?_) (fun hc => absurd hc Int32.lt_irrefl)
    refine w_aloadN X dprog_41_13_60 rfl (rfl) ?_
    refine w_callV X dprog_41_13_61 (wd_42 hw) (wd_43 hw) (notFace_of_selects (args := #[]) (mvT X.hZ (wd_45 hw))) (wd_45 hw) (wd_44 hw) (wd_7 hw) (wd_46 hw) (by decide) Ta.1 (argsL := []) (S := []) (m_tlen_1 hw hS Ta) pd_13 rfl rfl rfl (by decide) (Nat.le_of_ble_eq_true rfl) (by decide) (by decide) (fun T h6 v6 L6 X q6 => ?_)
    obtain ⟨rfl, rfl⟩ := q6
    show Wp p e below _ (T.setTop (mkF m 64 #[.val (.ref p1), .val (.ref p2), .val (.int (1 : Int32)), .val (.int (1 : Int32)), .val (.int a0), .val (.int b0)] [(.int (1 : Int32))]))
    refine w_aloadN X dprog_41_13_64 rfl (rfl) ?_
    refine w_callV X dprog_41_13_65 (wd_42 hw) (wd_43 hw) (notFace_of_selects (args := #[]) (mvT X.hZ (wd_45 hw))) (wd_45 hw) (wd_44 hw) (wd_7 hw) (wd_46 hw) (by decide) Tb.1 (argsL := []) (S := [(.int (1 : Int32))]) (m_tlen_2 hw hS Tb) pd_13 rfl rfl rfl (by decide) (Nat.le_of_ble_eq_true rfl) (by decide) (by decide) (fun T h7 v7 L7 X q7 => ?_)
    obtain ⟨rfl, rfl⟩ := q7
    show Wp p e below _ (T.setTop (mkF m 68 #[.val (.ref p1), .val (.ref p2), .val (.int (1 : Int32)), .val (.int (1 : Int32)), .val (.int a0), .val (.int b0)] [(.int (2 : Int32)), (.int (1 : Int32))]))
    refine w_callS X dprog_41_13_68 (wd_56 hw) (wd_57 hw) (wd_58 hw) (wd_59 hw) (by decide) (argsL := [(.int (1 : Int32)), (.int (2 : Int32))]) (S := []) (m_ic hw (x0 := (1 : Int32)) (y0 := (2 : Int32))) pd_1 rfl rfl rfl (by decide) (Nat.le_of_ble_eq_true rfl) (by decide) (by decide) (fun T h8 v8 L8 X q8 => ?_)
    obtain ⟨rfl, rfl⟩ := q8
    show Wp p e below _ (T.setTop (mkF m 71 #[.val (.ref p1), .val (.ref p2), .val (.int (1 : Int32)), .val (.int (1 : Int32)), .val (.int a0), .val (.int b0)] [(.int (own_icmp (1 : Int32) (2 : Int32)))]))
    exact w_retI X dprog_41_13_71 ⟨by simp only [own_cu, *, if_true, if_false], rfl⟩ (by decide) (by decide)
  · refine w_iload X dprog_41_13_40 rfl ?_
    refine w_callS X dprog_41_13_42 (wd_89 hw) (wd_90 hw) (wd_40 hw) (wd_91 hw) (by decide) (argsL := [(.int a0)]) (S := []) (m_cpo hw (x0 := a0)) pd_2 rfl rfl rfl (by decide) (Nat.le_of_ble_eq_true rfl) (by decide) (by decide) (fun T h9 v9 L9 X q9 => ?_)
    obtain ⟨rfl, rfl⟩ := q9
    show Wp p e below _ (T.setTop (mkF m 45 #[.val (.ref p1), .val (.ref p2), .val (.int (1 : Int32)), .val (.int (0 : Int32)), .val (.int a0), .val (.int b0)] [(.int (own_cpo a0))]))
    refine w_iload X dprog_41_13_45 rfl ?_
    refine w_callS X dprog_41_13_47 (wd_89 hw) (wd_90 hw) (wd_40 hw) (wd_91 hw) (by decide) (argsL := [(.int b0)]) (S := [(.int (own_cpo a0))]) (m_cpo hw (x0 := b0)) pd_2 rfl rfl rfl (by decide) (Nat.le_of_ble_eq_true rfl) (by decide) (by decide) (fun T h10 v10 L10 X q10 => ?_)
    obtain ⟨rfl, rfl⟩ := q10
    show Wp p e below _ (T.setTop (mkF m 50 #[.val (.ref p1), .val (.ref p2), .val (.int (1 : Int32)), .val (.int (0 : Int32)), .val (.int a0), .val (.int b0)] [(.int (own_cpo b0)), (.int (own_cpo a0))]))
    refine w_callS X dprog_41_13_50 (wd_56 hw) (wd_57 hw) (wd_58 hw) (wd_59 hw) (by decide) (argsL := [(.int (own_cpo a0)), (.int (own_cpo b0))]) (S := []) (m_ic hw (x0 := (own_cpo a0)) (y0 := (own_cpo b0))) pd_1 rfl rfl rfl (by decide) (Nat.le_of_ble_eq_true rfl) (by decide) (by decide) (fun T h11 v11 L11 X q11 => ?_)
    obtain ⟨rfl, rfl⟩ := q11
    show Wp p e below _ (T.setTop (mkF m 53 #[.val (.ref p1), .val (.ref p2), .val (.int (1 : Int32)), .val (.int (0 : Int32)), .val (.int a0), .val (.int b0)] [(.int (own_icmp (own_cpo a0) (own_cpo b0)))]))
    exact w_retI X dprog_41_13_53 ⟨by simp only [own_cu, *, if_true, if_false], rfl⟩ (by decide) (by decide)
set_option maxRecDepth 65536 in
set_option maxHeartbeats 40000000 in
theorem m_lca_3_0 {l : Launch} {Z : State} {a0 : Array Value} {n0 : Nat} (hw : ∀ d ∈ tables_1, d.before a0 Z = true) {h0 : Heap} {zc : Int32} {fm : Value} {t : Addr} {x0 x1 x2 : Int32} (hS : own_S Z zc fm) (At : Ary Z h0 t .byte [(.int x0), (.int x1), (.int x2)]) :
    Does l Z n0 ⟨"java/lang/StringLatin1", "charAt", "([BI)C"⟩ jdk_43_method_2_code 2 (some .char) [] { frames := 2, cells := 0, slots := 0, locals := 27 } #[(.ref t), (.int (0 : Int32))] h0 (fun v h => v = some (.int ((x0 &&& (255 : Int32)).toUInt32.toUInt16.toUInt32.toInt32)) ∧ h0 = h) := by
  refine Does.start (plainFor_of_name pn_7) ?_
  obtain ⟨S_zc, hzc, S_fm, hfm⟩ := id hS
  intro p e s m below meth c T X
  replace X : Sd Z n0 0 jdk_43_method_2_code 2 "java/lang/StringLatin1" "charAt" (some .char) h0 p l e { frames := 2, cells := 0, slots := 0, locals := 27 } s m #[(.ref t), (.int (0 : Int32))] below meth c T [] 0 0 := X
  refine Wp.cast (g' := mkF m 0 #[.val (.ref t), .val (.int (0 : Int32))] []) (by first | (simp [entryFrame, mkF, argsToLocals, Value.category, maxLocals]; done) | rfl) ?_
  refine w_iloadN X djdk_43_2_0 rfl ?_
  refine w_aloadN X djdk_43_2_1 rfl (rfl) ?_
  refine w_arrlen X (3 : Int32) djdk_43_2_2 At rfl ?_
  refine w_callS X djdk_43_2_3 (wd_81 hw) (wd_82 hw) (wd_7 hw) (wd_83 hw) (by decide) (argsL := [(.int (0 : Int32)), (.int (3 : Int32))]) (S := []) (m_sci hw hS (by decide) (by decide)) pd_15 rfl rfl rfl (by decide) (Nat.le_of_ble_eq_true rfl) (by decide) (by decide) (fun T h1 v1 L1 X q1 => ?_)
  obtain ⟨rfl, rfl⟩ := q1
  show Wp p e below _ (T.setTop (mkF m 6 #[.val (.ref t), .val (.int (0 : Int32))] []))
  refine w_aloadN X djdk_43_2_6 rfl (rfl) ?_
  refine w_iloadN X djdk_43_2_7 rfl ?_
  refine w_baload X djdk_43_2_8 At (by decide) rfl ?_
  refine w_sipush X (255 : Int32) djdk_43_2_9 rfl ?_
  refine w_iand X djdk_43_2_12 ?_
  refine w_i2c X djdk_43_2_13 ?_
  exact w_ret_char X ((x0 &&& (255 : Int32)).toUInt32.toUInt16.toUInt32.toInt32) (own_nar_c _) djdk_43_2_14 ⟨rfl, rfl⟩ (by decide) (by decide)
set_option maxRecDepth 65536 in
set_option maxHeartbeats 40000000 in
theorem m_ulen_3 {l : Launch} {Z : State} {a0 : Array Value} {n0 : Nat} (hw : ∀ d ∈ tables_1, d.before a0 Z = true) {h0 : Heap} {a : Addr} {x0 x1 x2 x3 x4 x5 : Int32} (Aa : Ary Z h0 a .byte [(.int x0), (.int x1), (.int x2), (.int x3), (.int x4), (.int x5)]) :
    Does l Z n0 ⟨"java/lang/StringUTF16", "length", "([B)I"⟩ jdk_52_method_6_code 1 (some .int) [] { frames := 0, cells := 0, slots := 0, locals := 0 } #[(.ref a)] h0 (fun v h => v = some (.int (3 : Int32)) ∧ h0 = h) := by
  refine Does.start (plainFor_of_name pn_5) ?_
  intro p e s m below meth c T X
  replace X : Sd Z n0 0 jdk_52_method_6_code 1 "java/lang/StringUTF16" "length" (some .int) h0 p l e { frames := 0, cells := 0, slots := 0, locals := 0 } s m #[(.ref a)] below meth c T [] 0 0 := X
  refine Wp.cast (g' := mkF m 0 #[.val (.ref a)] []) (by first | (simp [entryFrame, mkF, argsToLocals, Value.category, maxLocals]; done) | rfl) ?_
  refine w_aloadN X djdk_52_6_0 rfl (rfl) ?_
  refine w_arrlen X (6 : Int32) djdk_52_6_1 Aa rfl ?_
  refine w_iconst X (1 : Int32) djdk_52_6_2 rfl ?_
  refine w_ishr X djdk_52_6_3 ?_
  exact w_retI X djdk_52_6_4 ⟨rfl, rfl⟩ (by decide) (by decide)
set_option maxRecDepth 65536 in
set_option maxHeartbeats 40000000 in
theorem m_uci_3_0 {l : Launch} {Z : State} {a0 : Array Value} {n0 : Nat} (hw : ∀ d ∈ tables_1, d.before a0 Z = true) {h0 : Heap} {zc : Int32} {fm : Value} {a : Addr} {x0 x1 x2 x3 x4 x5 : Int32} (hS : own_S Z zc fm) (Aa : Ary Z h0 a .byte [(.int x0), (.int x1), (.int x2), (.int x3), (.int x4), (.int x5)]) :
    Does l Z n0 ⟨"java/lang/StringUTF16", "checkIndex", "(I[B)V"⟩ jdk_52_method_91_code 2 none [] { frames := 2, cells := 0, slots := 0, locals := 27 } #[(.int (0 : Int32)), (.ref a)] h0 (fun v h => v = none ∧ h0 = h) := by
  refine Does.start (plainFor_of_name pn_5) ?_
  obtain ⟨S_zc, hzc, S_fm, hfm⟩ := id hS
  intro p e s m below meth c T X
  replace X : Sd Z n0 0 jdk_52_method_91_code 2 "java/lang/StringUTF16" "checkIndex" none h0 p l e { frames := 2, cells := 0, slots := 0, locals := 27 } s m #[(.int (0 : Int32)), (.ref a)] below meth c T [] 0 0 := X
  refine Wp.cast (g' := mkF m 0 #[.val (.int (0 : Int32)), .val (.ref a)] []) (by first | (simp [entryFrame, mkF, argsToLocals, Value.category, maxLocals]; done) | rfl) ?_
  refine w_iloadN X djdk_52_91_0 rfl ?_
  refine w_aloadN X djdk_52_91_1 rfl (rfl) ?_
  refine w_callS X djdk_52_91_2 (wd_126 hw) (wd_127 hw) (wd_22 hw) (wd_128 hw) (by decide) (argsL := [(.ref a)]) (S := [(.int (0 : Int32))]) (m_ulen_3 hw Aa) pd_16 rfl rfl rfl (by decide) (Nat.le_of_ble_eq_true rfl) (by decide) (by decide) (fun T h1 v1 L1 X q1 => ?_)
  obtain ⟨rfl, rfl⟩ := q1
  show Wp p e below _ (T.setTop (mkF m 5 #[.val (.int (0 : Int32)), .val (.ref a)] [(.int (3 : Int32)), (.int (0 : Int32))]))
  refine w_callS X djdk_52_91_5 (wd_129 hw) (wd_82 hw) (wd_7 hw) (wd_83 hw) (by decide) (argsL := [(.int (0 : Int32)), (.int (3 : Int32))]) (S := []) (m_sci hw hS (by decide) (by decide)) pd_15 rfl rfl rfl (by decide) (Nat.le_of_ble_eq_true rfl) (by decide) (by decide) (fun T h2 v2 L2 X q2 => ?_)
  obtain ⟨rfl, rfl⟩ := q2
  show Wp p e below _ (T.setTop (mkF m 8 #[.val (.int (0 : Int32)), .val (.ref a)] []))
  exact w_retV X djdk_52_91_8 ⟨rfl, rfl⟩ (by decide) (by decide)
set_option maxRecDepth 65536 in
set_option maxHeartbeats 40000000 in
theorem m_uca_3_0 {l : Launch} {Z : State} {a0 : Array Value} {n0 : Nat} (hw : ∀ d ∈ tables_1, d.before a0 Z = true) {h0 : Heap} {zc : Int32} {fm : Value} {a : Addr} {c0 c1 c2 : Int32} (hU : own_U Z zc fm) (Aa : Ary Z h0 a .byte [(.int ((c0 >>> ((0 : Int32) &&& 31)).toInt8.toInt32)), (.int ((c0 >>> ((8 : Int32) &&& 31)).toInt8.toInt32)), (.int ((c1 >>> ((0 : Int32) &&& 31)).toInt8.toInt32)), (.int ((c1 >>> ((8 : Int32) &&& 31)).toInt8.toInt32)), (.int ((c2 >>> ((0 : Int32) &&& 31)).toInt8.toInt32)), (.int ((c2 >>> ((8 : Int32) &&& 31)).toInt8.toInt32))]) (nk : nar .char c0 = c0) :
    Does l Z n0 ⟨"java/lang/StringUTF16", "charAt", "([BI)C"⟩ jdk_52_method_83_code 2 (some .char) [] { frames := 3, cells := 0, slots := 0, locals := 40 } #[(.ref a), (.int (0 : Int32))] h0 (fun v h => v = some (.int c0) ∧ h0 = h) := by
  refine Does.start (plainFor_of_name pn_5) ?_
  obtain ⟨hS, S_ad, S_hi, S_lo⟩ := id hU
  obtain ⟨S_zc, hzc, S_fm, hfm⟩ := id hS
  intro p e s m below meth c T X
  replace X : Sd Z n0 0 jdk_52_method_83_code 2 "java/lang/StringUTF16" "charAt" (some .char) h0 p l e { frames := 3, cells := 0, slots := 0, locals := 40 } s m #[(.ref a), (.int (0 : Int32))] below meth c T [] 0 0 := X
  refine Wp.cast (g' := mkF m 0 #[.val (.ref a), .val (.int (0 : Int32))] []) (by first | (simp [entryFrame, mkF, argsToLocals, Value.category, maxLocals]; done) | rfl) ?_
  refine w_iloadN X djdk_52_83_0 rfl ?_
  refine w_aloadN X djdk_52_83_1 rfl (rfl) ?_
  refine w_callS X djdk_52_83_2 (wd_123 hw) (wd_124 hw) (wd_22 hw) (wd_125 hw) (by decide) (argsL := [(.int (0 : Int32)), (.ref a)]) (S := []) (m_uci_3_0 hw hS Aa) pd_17 rfl rfl rfl (by decide) (Nat.le_of_ble_eq_true rfl) (by decide) (by decide) (fun T h1 v1 L1 X q1 => ?_)
  obtain ⟨rfl, rfl⟩ := q1
  show Wp p e below _ (T.setTop (mkF m 5 #[.val (.ref a), .val (.int (0 : Int32))] []))
  refine w_aloadN X djdk_52_83_5 rfl (rfl) ?_
  refine w_iloadN X djdk_52_83_6 rfl ?_
  refine w_callS X djdk_52_83_7 (wd_117 hw) (wd_118 hw) (wd_22 hw) (wd_119 hw) (by decide) (argsL := [(.ref a), (.int (0 : Int32))]) (S := []) (m_getc_3_0 hw (r := c0) hU Aa (own_utf nk)) pd_11 rfl rfl rfl (by decide) (Nat.le_of_ble_eq_true rfl) (by decide) (by decide) (fun T h2 v2 L2 X q2 => ?_)
  obtain ⟨rfl, rfl⟩ := q2
  show Wp p e below _ (T.setTop (mkF m 10 #[.val (.ref a), .val (.int (0 : Int32))] [(.int c0)]))
  exact w_ret_char X c0 nk djdk_52_83_10 ⟨rfl, rfl⟩ (by decide) (by decide)
set_option maxRecDepth 65536 in
set_option maxHeartbeats 40000000 in
theorem m_tca_3_0 {l : Launch} {Z : State} {a0 : Array Value} {n0 : Nat} (hw : ∀ d ∈ tables_1, d.before a0 Z = true) {h0 : Heap} {zc : Int32} {fm : Value} {a t : Addr} {c0 c1 c2 : Int32} (hU : own_U Z zc fm) (Tx : Txt Z h0 a t [c0, c1, c2]) (nk : nar .char c0 = c0) :
    Does l Z n0 ⟨"java/lang/String", "charAt", "(I)C"⟩ jdk_42_method_56_code 2 (some .char) [] { frames := 4, cells := 0, slots := 0, locals := 53 } #[(.ref a), (.int (0 : Int32))] h0 (fun v h => v = some (.int c0) ∧ h0 = h) := by
  refine Does.start (plainFor_of_name pn_4) ?_
  obtain ⟨hS, S_ad, S_hi, S_lo⟩ := id hU
  obtain ⟨S_zc, hzc, S_fm, hfm⟩ := id hS
  intro p e s m below meth c T X
  replace X : Sd Z n0 0 jdk_42_method_56_code 2 "java/lang/String" "charAt" (some .char) h0 p l e { frames := 4, cells := 0, slots := 0, locals := 53 } s m #[(.ref a), (.int (0 : Int32))] below meth c T [] 0 0 := X
  refine Wp.cast (g' := mkF m 0 #[.val (.ref a), .val (.int (0 : Int32))] []) (by first | (simp [entryFrame, mkF, argsToLocals, Value.category, maxLocals]; done) | rfl) ?_
  obtain ⟨Ea, Va, hT⟩ := Tx
  rcases hT with ⟨Ca, At, hl⟩ | ⟨Ca, At⟩
  · replace At : Ary Z h0 t .byte [(.int (c0.toInt8.toInt32)), (.int (c1.toInt8.toInt32)), (.int (c2.toInt8.toInt32))] := At
    refine w_aloadN X djdk_42_56_0 rfl (rfl) ?_
    refine w_callV X djdk_42_56_1 (wd_72 hw) (wd_73 hw) (notFace_of_selects (args := #[]) (mvT X.hZ (wd_75 hw))) (wd_75 hw) (wd_74 hw) (wd_7 hw) (wd_76 hw) (by decide) Ea (argsL := []) (S := []) (m_isl hw hS Ca) pd_18 rfl rfl rfl (by decide) (Nat.le_of_ble_eq_true rfl) (by decide) (by decide) (fun T h1 v1 L1 X q1 => ?_)
    obtain ⟨rfl, rfl⟩ := q1
    show Wp p e below _ (T.setTop (mkF m 4 #[.val (.ref a), .val (.int (0 : Int32))] [(.int (1 : Int32))]))
    refine w_ifeq X djdk_42_56_4 (fun hc => absurd hc (by decide)) (fun _ => ?_)
    refine w_aloadN X djdk_42_56_7 rfl (rfl) ?_
    refine w_getF X djdk_42_56_8 (host := "") (Or.inl (wd_33 hw)) Via.refl Va (fun T X => ?_)
    refine w_iloadN X djdk_42_56_11 rfl ?_
    refine w_callS X djdk_42_56_12 (wd_77 hw) (wd_78 hw) (wd_79 hw) (wd_80 hw) (by decide) (argsL := [(.ref t), (.int (0 : Int32))]) (S := []) (m_lca_3_0 hw hS At) pd_11 rfl rfl rfl (by decide) (Nat.le_of_ble_eq_true rfl) (by decide) (by decide) (fun T h2 v2 L2 X q2 => ?_)
    obtain ⟨rfl, rfl⟩ := q2
    show Wp p e below _ (T.setTop (mkF m 15 #[.val (.ref a), .val (.int (0 : Int32))] [(.int (((c0.toInt8.toInt32) &&& (255 : Int32)).toUInt32.toUInt16.toUInt32.toInt32))]))
    exact w_ret_char X (((c0.toInt8.toInt32) &&& (255 : Int32)).toUInt32.toUInt16.toUInt32.toInt32) (own_nar_c _) djdk_42_56_15 ⟨by rw [own_lat nk (hl c0 (List.mem_of_getElem? (i := 0) rfl))], rfl⟩ (by decide) (by decide)
  · replace At : Ary Z h0 t .byte [(.int ((c0 >>> ((0 : Int32) &&& 31)).toInt8.toInt32)), (.int ((c0 >>> ((8 : Int32) &&& 31)).toInt8.toInt32)), (.int ((c1 >>> ((0 : Int32) &&& 31)).toInt8.toInt32)), (.int ((c1 >>> ((8 : Int32) &&& 31)).toInt8.toInt32)), (.int ((c2 >>> ((0 : Int32) &&& 31)).toInt8.toInt32)), (.int ((c2 >>> ((8 : Int32) &&& 31)).toInt8.toInt32))] := At
    refine w_aloadN X djdk_42_56_0 rfl (rfl) ?_
    refine w_callV X djdk_42_56_1 (wd_72 hw) (wd_73 hw) (notFace_of_selects (args := #[]) (mvT X.hZ (wd_75 hw))) (wd_75 hw) (wd_74 hw) (wd_7 hw) (wd_76 hw) (by decide) Ea (argsL := []) (S := []) (m_isl1 hw hS Ca) pd_18 rfl rfl rfl (by decide) (Nat.le_of_ble_eq_true rfl) (by decide) (by decide) (fun T h3 v3 L3 X q3 => ?_)
    obtain ⟨rfl, rfl⟩ := q3
    show Wp p e below _ (T.setTop (mkF m 4 #[.val (.ref a), .val (.int (0 : Int32))] [(.int (0 : Int32))]))
    refine w_ifeq X djdk_42_56_4 (fun _ => ?_) (fun hc => absurd rfl hc)
    refine w_aloadN X djdk_42_56_16 rfl (rfl) ?_
    refine w_getF X djdk_42_56_17 (host := "") (Or.inl (wd_33 hw)) Via.refl Va (fun T X => ?_)
    refine w_iloadN X djdk_42_56_20 rfl ?_
    refine w_callS X djdk_42_56_21 (wd_120 hw) (wd_121 hw) (wd_22 hw) (wd_122 hw) (by decide) (argsL := [(.ref t), (.int (0 : Int32))]) (S := []) (m_uca_3_0 hw hU At nk) pd_11 rfl rfl rfl (by decide) (Nat.le_of_ble_eq_true rfl) (by decide) (by decide) (fun T h4 v4 L4 X q4 => ?_)
    obtain ⟨rfl, rfl⟩ := q4
    show Wp p e below _ (T.setTop (mkF m 24 #[.val (.ref a), .val (.int (0 : Int32))] [(.int c0)]))
    exact w_ret_char X c0 nk djdk_42_56_24 ⟨rfl, rfl⟩ (by decide) (by decide)
set_option maxRecDepth 65536 in
set_option maxHeartbeats 40000000 in
theorem m_cu_1_3 {l : Launch} {Z : State} {a0 : Array Value} {n0 : Nat} (hw : ∀ d ∈ tables_1, d.before a0 Z = true) {h0 : Heap} {zc : Int32} {fm : Value} {p1 p2 t1 t2 : Addr} {a0 b0 b1 b2 : Int32} (hU : own_U Z zc fm) (Ta : Txt Z h0 p1 t1 [a0]) (Tb : Txt Z h0 p2 t2 [b0, b1, b2]) (ha0 : nar .char a0 = a0) (hb0 : nar .char b0 = b0) (hb1 : nar .char b1 = b1) (hb2 : nar .char b2 = b2) :
    Does l Z n0 ⟨"com/example/whole_session/wholesession/Run", "compareUtf8", "(Ljava/lang/String;Ljava/lang/String;)I"⟩ prog_41_method_13_code 6 (some .int) [] { frames := 5, cells := 0, slots := 0, locals := 66 } #[(.ref p1), (.ref p2)] h0 (fun v h => v = some (.int (own_cu [a0] [b0, b1, b2] (1 : Int32) (3 : Int32))) ∧ h0 = h) := by
  refine Does.start (plainFor_of_name pn_3) ?_
  obtain ⟨hS, S_ad, S_hi, S_lo⟩ := id hU
  obtain ⟨S_zc, hzc, S_fm, hfm⟩ := id hS
  intro p e s m below meth c T X
  replace X : Sd Z n0 0 prog_41_method_13_code 6 "com/example/whole_session/wholesession/Run" "compareUtf8" (some .int) h0 p l e { frames := 5, cells := 0, slots := 0, locals := 66 } s m #[(.ref p1), (.ref p2)] below meth c T [] 0 0 := X
  refine Wp.cast (g' := mkF m 0 #[.val (.ref p1), .val (.ref p2), .unset, .unset, .unset, .unset] []) (by first | (simp [entryFrame, mkF, argsToLocals, Value.category, maxLocals]; done) | rfl) ?_
  refine w_aloadN X dprog_41_13_0 rfl (rfl) ?_
  refine w_callV X dprog_41_13_1 (wd_42 hw) (wd_43 hw) (notFace_of_selects (args := #[]) (mvT X.hZ (wd_45 hw))) (wd_45 hw) (wd_44 hw) (wd_7 hw) (wd_46 hw) (by decide) Ta.1 (argsL := []) (S := []) (m_tlen_1 hw hS Ta) pd_13 rfl rfl rfl (by decide) (Nat.le_of_ble_eq_true rfl) (by decide) (by decide) (fun T h1 v1 L1 X q1 => ?_)
  obtain ⟨rfl, rfl⟩ := q1
  show Wp p e below _ (T.setTop (mkF m 4 #[.val (.ref p1), .val (.ref p2), .unset, .unset, .unset, .unset] [(.int (1 : Int32))]))
  refine w_aloadN X dprog_41_13_4 rfl (rfl) ?_
  refine w_callV X dprog_41_13_5 (wd_42 hw) (wd_43 hw) (notFace_of_selects (args := #[]) (mvT X.hZ (wd_45 hw))) (wd_45 hw) (wd_44 hw) (wd_7 hw) (wd_46 hw) (by decide) Tb.1 (argsL := []) (S := [(.int (1 : Int32))]) (m_tlen_3 hw hS Tb) pd_13 rfl rfl rfl (by decide) (Nat.le_of_ble_eq_true rfl) (by decide) (by decide) (fun T h2 v2 L2 X q2 => ?_)
  obtain ⟨rfl, rfl⟩ := q2
  show Wp p e below _ (T.setTop (mkF m 8 #[.val (.ref p1), .val (.ref p2), .unset, .unset, .unset, .unset] [(.int (3 : Int32)), (.int (1 : Int32))]))
  refine w_callS X dprog_41_13_8 (wd_52 hw) (wd_53 hw) (wd_54 hw) (wd_55 hw) (by decide) (argsL := [(.int (1 : Int32)), (.int (3 : Int32))]) (S := []) (m_min hw (r := (1 : Int32)) (by decide)) pd_1 rfl rfl rfl (by decide) (Nat.le_of_ble_eq_true rfl) (by decide) (by decide) (fun T h3 v3 L3 X q3 => ?_)
  obtain ⟨rfl, rfl⟩ := q3
  show Wp p e below _ (T.setTop (mkF m 11 #[.val (.ref p1), .val (.ref p2), .unset, .unset, .unset, .unset] [(.int (1 : Int32))]))
  refine w_istoreN X #[.val (.ref p1), .val (.ref p2), .val (.int (1 : Int32)), .unset, .unset, .unset] dprog_41_13_11 rfl ?_
  refine w_iconst X (0 : Int32) dprog_41_13_12 rfl ?_
  refine w_istoreN X #[.val (.ref p1), .val (.ref p2), .val (.int (1 : Int32)), .val (.int (0 : Int32)), .unset, .unset] dprog_41_13_13 rfl ?_
  refine w_iloadN X dprog_41_13_14 rfl ?_
  refine w_iloadN X dprog_41_13_15 rfl ?_
  refine w_icmpge X dprog_41_13_16 (fun hc => absurd (by decide) hc) (fun _ => ?_)
  refine w_aloadN X dprog_41_13_19 rfl (rfl) ?_
  refine w_iloadN X dprog_41_13_20 rfl ?_
  refine w_callV X dprog_41_13_21 (wd_67 hw) (wd_68 hw) (notFace_of_selects (args := #[]) (mvT X.hZ (wd_70 hw))) (wd_70 hw) (wd_69 hw) (wd_7 hw) (wd_71 hw) (by decide) Ta.1 (argsL := [(.int (0 : Int32))]) (S := []) (m_tca_1_0 hw hU Ta ha0) pd_19 rfl rfl rfl (by decide) (Nat.le_of_ble_eq_true rfl) (by decide) (by decide) (fun T h4 v4 L4 X q4 => ?_)
  obtain ⟨rfl, rfl⟩ := q4
  show Wp p e below _ (T.setTop (mkF m 24 #[.val (.ref p1), .val (.ref p2), .val (.int (1 : Int32)), .val (.int (0 : Int32)), .unset, .unset] [(.int a0)]))
  refine w_istore X #[.val (.ref p1), .val (.ref p2), .val (.int (1 : Int32)), .val (.int (0 : Int32)), .val (.int a0), .unset] dprog_41_13_24 rfl ?_
  refine w_aloadN X dprog_41_13_26 rfl (rfl) ?_
  refine w_iloadN X dprog_41_13_27 rfl ?_
  refine w_callV X dprog_41_13_28 (wd_67 hw) (wd_68 hw) (notFace_of_selects (args := #[]) (mvT X.hZ (wd_70 hw))) (wd_70 hw) (wd_69 hw) (wd_7 hw) (wd_71 hw) (by decide) Tb.1 (argsL := [(.int (0 : Int32))]) (S := []) (m_tca_3_0 hw hU Tb hb0) pd_19 rfl rfl rfl (by decide) (Nat.le_of_ble_eq_true rfl) (by decide) (by decide) (fun T h5 v5 L5 X q5 => ?_)
  obtain ⟨rfl, rfl⟩ := q5
  show Wp p e below _ (T.setTop (mkF m 31 #[.val (.ref p1), .val (.ref p2), .val (.int (1 : Int32)), .val (.int (0 : Int32)), .val (.int a0), .unset] [(.int b0)]))
  refine w_istore X #[.val (.ref p1), .val (.ref p2), .val (.int (1 : Int32)), .val (.int (0 : Int32)), .val (.int a0), .val (.int b0)] dprog_41_13_31 rfl ?_
  refine w_iload X dprog_41_13_33 rfl ?_
  refine w_iload X dprog_41_13_35 rfl ?_
  refine w_icmpeq X dprog_41_13_37 (fun (hc37 : a0 = b0) => ?_) (fun (hc37 : ¬ a0 = b0) => ?_)
  · refine w_iinc X (1 : Int32) #[.val (.ref p1), .val (.ref p2), .val (.int (1 : Int32)), .val (.int (1 : Int32)), .val (.int a0), .val (.int b0)] dprog_41_13_54 rfl rfl rfl ?_
    refine w_goto X dprog_41_13_57 ?_
    refine w_iloadN X dprog_41_13_14 rfl ?_
    refine w_iloadN X dprog_41_13_15 rfl ?_
    refine w_icmpge X dprog_41_13_16 (fun _ => ?_) (fun hc => absurd hc Int32.lt_irrefl)
    refine w_aloadN X dprog_41_13_60 rfl (rfl) ?_
    refine w_callV X dprog_41_13_61 (wd_42 hw) (wd_43 hw) (notFace_of_selects (args := #[]) (mvT X.hZ (wd_45 hw))) (wd_45 hw) (wd_44 hw) (wd_7 hw) (wd_46 hw) (by decide) Ta.1 (argsL := []) (S := []) (m_tlen_1 hw hS Ta) pd_13 rfl rfl rfl (by decide) (Nat.le_of_ble_eq_true rfl) (by decide) (by decide) (fun T h6 v6 L6 X q6 => ?_)
    obtain ⟨rfl, rfl⟩ := q6
    show Wp p e below _ (T.setTop (mkF m 64 #[.val (.ref p1), .val (.ref p2), .val (.int (1 : Int32)), .val (.int (1 : Int32)), .val (.int a0), .val (.int b0)] [(.int (1 : Int32))]))
    refine w_aloadN X dprog_41_13_64 rfl (rfl) ?_
    refine w_callV X dprog_41_13_65 (wd_42 hw) (wd_43 hw) (notFace_of_selects (args := #[]) (mvT X.hZ (wd_45 hw))) (wd_45 hw) (wd_44 hw) (wd_7 hw) (wd_46 hw) (by decide) Tb.1 (argsL := []) (S := [(.int (1 : Int32))]) (m_tlen_3 hw hS Tb) pd_13 rfl rfl rfl (by decide) (Nat.le_of_ble_eq_true rfl) (by decide) (by decide) (fun T h7 v7 L7 X q7 => ?_)
    obtain ⟨rfl, rfl⟩ := q7
    show Wp p e below _ (T.setTop (mkF m 68 #[.val (.ref p1), .val (.ref p2), .val (.int (1 : Int32)), .val (.int (1 : Int32)), .val (.int a0), .val (.int b0)] [(.int (3 : Int32)), (.int (1 : Int32))]))
    refine w_callS X dprog_41_13_68 (wd_56 hw) (wd_57 hw) (wd_58 hw) (wd_59 hw) (by decide) (argsL := [(.int (1 : Int32)), (.int (3 : Int32))]) (S := []) (m_ic hw (x0 := (1 : Int32)) (y0 := (3 : Int32))) pd_1 rfl rfl rfl (by decide) (Nat.le_of_ble_eq_true rfl) (by decide) (by decide) (fun T h8 v8 L8 X q8 => ?_)
    obtain ⟨rfl, rfl⟩ := q8
    show Wp p e below _ (T.setTop (mkF m 71 #[.val (.ref p1), .val (.ref p2), .val (.int (1 : Int32)), .val (.int (1 : Int32)), .val (.int a0), .val (.int b0)] [(.int (own_icmp (1 : Int32) (3 : Int32)))]))
    exact w_retI X dprog_41_13_71 ⟨by simp only [own_cu, *, if_true, if_false], rfl⟩ (by decide) (by decide)
  · refine w_iload X dprog_41_13_40 rfl ?_
    refine w_callS X dprog_41_13_42 (wd_89 hw) (wd_90 hw) (wd_40 hw) (wd_91 hw) (by decide) (argsL := [(.int a0)]) (S := []) (m_cpo hw (x0 := a0)) pd_2 rfl rfl rfl (by decide) (Nat.le_of_ble_eq_true rfl) (by decide) (by decide) (fun T h9 v9 L9 X q9 => ?_)
    obtain ⟨rfl, rfl⟩ := q9
    show Wp p e below _ (T.setTop (mkF m 45 #[.val (.ref p1), .val (.ref p2), .val (.int (1 : Int32)), .val (.int (0 : Int32)), .val (.int a0), .val (.int b0)] [(.int (own_cpo a0))]))
    refine w_iload X dprog_41_13_45 rfl ?_
    refine w_callS X dprog_41_13_47 (wd_89 hw) (wd_90 hw) (wd_40 hw) (wd_91 hw) (by decide) (argsL := [(.int b0)]) (S := [(.int (own_cpo a0))]) (m_cpo hw (x0 := b0)) pd_2 rfl rfl rfl (by decide) (Nat.le_of_ble_eq_true rfl) (by decide) (by decide) (fun T h10 v10 L10 X q10 => ?_)
    obtain ⟨rfl, rfl⟩ := q10
    show Wp p e below _ (T.setTop (mkF m 50 #[.val (.ref p1), .val (.ref p2), .val (.int (1 : Int32)), .val (.int (0 : Int32)), .val (.int a0), .val (.int b0)] [(.int (own_cpo b0)), (.int (own_cpo a0))]))
    refine w_callS X dprog_41_13_50 (wd_56 hw) (wd_57 hw) (wd_58 hw) (wd_59 hw) (by decide) (argsL := [(.int (own_cpo a0)), (.int (own_cpo b0))]) (S := []) (m_ic hw (x0 := (own_cpo a0)) (y0 := (own_cpo b0))) pd_1 rfl rfl rfl (by decide) (Nat.le_of_ble_eq_true rfl) (by decide) (by decide) (fun T h11 v11 L11 X q11 => ?_)
    obtain ⟨rfl, rfl⟩ := q11
    show Wp p e below _ (T.setTop (mkF m 53 #[.val (.ref p1), .val (.ref p2), .val (.int (1 : Int32)), .val (.int (0 : Int32)), .val (.int a0), .val (.int b0)] [(.int (own_icmp (own_cpo a0) (own_cpo b0)))]))
    exact w_retI X dprog_41_13_53 ⟨by simp only [own_cu, *, if_true, if_false], rfl⟩ (by decide) (by decide)
set_option maxRecDepth 65536 in
set_option maxHeartbeats 40000000 in
theorem m_cu_2_0 {l : Launch} {Z : State} {a0 : Array Value} {n0 : Nat} (hw : ∀ d ∈ tables_1, d.before a0 Z = true) {h0 : Heap} {zc : Int32} {fm : Value} {p1 p2 t1 t2 : Addr} {a0 a1 : Int32} (hU : own_U Z zc fm) (Ta : Txt Z h0 p1 t1 [a0, a1]) (Tb : Txt Z h0 p2 t2 []) (ha0 : nar .char a0 = a0) (ha1 : nar .char a1 = a1) :
    Does l Z n0 ⟨"com/example/whole_session/wholesession/Run", "compareUtf8", "(Ljava/lang/String;Ljava/lang/String;)I"⟩ prog_41_method_13_code 6 (some .int) [] { frames := 2, cells := 0, slots := 0, locals := 26 } #[(.ref p1), (.ref p2)] h0 (fun v h => v = some (.int (own_cu [a0, a1] [] (2 : Int32) (0 : Int32))) ∧ h0 = h) := by
  refine Does.start (plainFor_of_name pn_3) ?_
  obtain ⟨hS, S_ad, S_hi, S_lo⟩ := id hU
  obtain ⟨S_zc, hzc, S_fm, hfm⟩ := id hS
  intro p e s m below meth c T X
  replace X : Sd Z n0 0 prog_41_method_13_code 6 "com/example/whole_session/wholesession/Run" "compareUtf8" (some .int) h0 p l e { frames := 2, cells := 0, slots := 0, locals := 26 } s m #[(.ref p1), (.ref p2)] below meth c T [] 0 0 := X
  refine Wp.cast (g' := mkF m 0 #[.val (.ref p1), .val (.ref p2), .unset, .unset, .unset, .unset] []) (by first | (simp [entryFrame, mkF, argsToLocals, Value.category, maxLocals]; done) | rfl) ?_
  refine w_aloadN X dprog_41_13_0 rfl (rfl) ?_
  refine w_callV X dprog_41_13_1 (wd_42 hw) (wd_43 hw) (notFace_of_selects (args := #[]) (mvT X.hZ (wd_45 hw))) (wd_45 hw) (wd_44 hw) (wd_7 hw) (wd_46 hw) (by decide) Ta.1 (argsL := []) (S := []) (m_tlen_2 hw hS Ta) pd_13 rfl rfl rfl (by decide) (Nat.le_of_ble_eq_true rfl) (by decide) (by decide) (fun T h1 v1 L1 X q1 => ?_)
  obtain ⟨rfl, rfl⟩ := q1
  show Wp p e below _ (T.setTop (mkF m 4 #[.val (.ref p1), .val (.ref p2), .unset, .unset, .unset, .unset] [(.int (2 : Int32))]))
  refine w_aloadN X dprog_41_13_4 rfl (rfl) ?_
  refine w_callV X dprog_41_13_5 (wd_42 hw) (wd_43 hw) (notFace_of_selects (args := #[]) (mvT X.hZ (wd_45 hw))) (wd_45 hw) (wd_44 hw) (wd_7 hw) (wd_46 hw) (by decide) Tb.1 (argsL := []) (S := [(.int (2 : Int32))]) (m_tlen_0 hw hS Tb) pd_13 rfl rfl rfl (by decide) (Nat.le_of_ble_eq_true rfl) (by decide) (by decide) (fun T h2 v2 L2 X q2 => ?_)
  obtain ⟨rfl, rfl⟩ := q2
  show Wp p e below _ (T.setTop (mkF m 8 #[.val (.ref p1), .val (.ref p2), .unset, .unset, .unset, .unset] [(.int (0 : Int32)), (.int (2 : Int32))]))
  refine w_callS X dprog_41_13_8 (wd_52 hw) (wd_53 hw) (wd_54 hw) (wd_55 hw) (by decide) (argsL := [(.int (2 : Int32)), (.int (0 : Int32))]) (S := []) (m_min hw (r := (0 : Int32)) (by decide)) pd_1 rfl rfl rfl (by decide) (Nat.le_of_ble_eq_true rfl) (by decide) (by decide) (fun T h3 v3 L3 X q3 => ?_)
  obtain ⟨rfl, rfl⟩ := q3
  show Wp p e below _ (T.setTop (mkF m 11 #[.val (.ref p1), .val (.ref p2), .unset, .unset, .unset, .unset] [(.int (0 : Int32))]))
  refine w_istoreN X #[.val (.ref p1), .val (.ref p2), .val (.int (0 : Int32)), .unset, .unset, .unset] dprog_41_13_11 rfl ?_
  refine w_iconst X (0 : Int32) dprog_41_13_12 rfl ?_
  refine w_istoreN X #[.val (.ref p1), .val (.ref p2), .val (.int (0 : Int32)), .val (.int (0 : Int32)), .unset, .unset] dprog_41_13_13 rfl ?_
  refine w_iloadN X dprog_41_13_14 rfl ?_
  refine w_iloadN X dprog_41_13_15 rfl ?_
  refine w_icmpge X dprog_41_13_16 (fun _ => ?_) (fun hc => absurd hc Int32.lt_irrefl)
  refine w_aloadN X dprog_41_13_60 rfl (rfl) ?_
  refine w_callV X dprog_41_13_61 (wd_42 hw) (wd_43 hw) (notFace_of_selects (args := #[]) (mvT X.hZ (wd_45 hw))) (wd_45 hw) (wd_44 hw) (wd_7 hw) (wd_46 hw) (by decide) Ta.1 (argsL := []) (S := []) (m_tlen_2 hw hS Ta) pd_13 rfl rfl rfl (by decide) (Nat.le_of_ble_eq_true rfl) (by decide) (by decide) (fun T h4 v4 L4 X q4 => ?_)
  obtain ⟨rfl, rfl⟩ := q4
  show Wp p e below _ (T.setTop (mkF m 64 #[.val (.ref p1), .val (.ref p2), .val (.int (0 : Int32)), .val (.int (0 : Int32)), .unset, .unset] [(.int (2 : Int32))]))
  refine w_aloadN X dprog_41_13_64 rfl (rfl) ?_
  refine w_callV X dprog_41_13_65 (wd_42 hw) (wd_43 hw) (notFace_of_selects (args := #[]) (mvT X.hZ (wd_45 hw))) (wd_45 hw) (wd_44 hw) (wd_7 hw) (wd_46 hw) (by decide) Tb.1 (argsL := []) (S := [(.int (2 : Int32))]) (m_tlen_0 hw hS Tb) pd_13 rfl rfl rfl (by decide) (Nat.le_of_ble_eq_true rfl) (by decide) (by decide) (fun T h5 v5 L5 X q5 => ?_)
  obtain ⟨rfl, rfl⟩ := q5
  show Wp p e below _ (T.setTop (mkF m 68 #[.val (.ref p1), .val (.ref p2), .val (.int (0 : Int32)), .val (.int (0 : Int32)), .unset, .unset] [(.int (0 : Int32)), (.int (2 : Int32))]))
  refine w_callS X dprog_41_13_68 (wd_56 hw) (wd_57 hw) (wd_58 hw) (wd_59 hw) (by decide) (argsL := [(.int (2 : Int32)), (.int (0 : Int32))]) (S := []) (m_ic hw (x0 := (2 : Int32)) (y0 := (0 : Int32))) pd_1 rfl rfl rfl (by decide) (Nat.le_of_ble_eq_true rfl) (by decide) (by decide) (fun T h6 v6 L6 X q6 => ?_)
  obtain ⟨rfl, rfl⟩ := q6
  show Wp p e below _ (T.setTop (mkF m 71 #[.val (.ref p1), .val (.ref p2), .val (.int (0 : Int32)), .val (.int (0 : Int32)), .unset, .unset] [(.int (own_icmp (2 : Int32) (0 : Int32)))]))
  exact w_retI X dprog_41_13_71 ⟨by simp only [own_cu, *, if_true, if_false], rfl⟩ (by decide) (by decide)
set_option maxRecDepth 65536 in
set_option maxHeartbeats 40000000 in
theorem m_cu_2_1 {l : Launch} {Z : State} {a0 : Array Value} {n0 : Nat} (hw : ∀ d ∈ tables_1, d.before a0 Z = true) {h0 : Heap} {zc : Int32} {fm : Value} {p1 p2 t1 t2 : Addr} {a0 a1 b0 : Int32} (hU : own_U Z zc fm) (Ta : Txt Z h0 p1 t1 [a0, a1]) (Tb : Txt Z h0 p2 t2 [b0]) (ha0 : nar .char a0 = a0) (ha1 : nar .char a1 = a1) (hb0 : nar .char b0 = b0) :
    Does l Z n0 ⟨"com/example/whole_session/wholesession/Run", "compareUtf8", "(Ljava/lang/String;Ljava/lang/String;)I"⟩ prog_41_method_13_code 6 (some .int) [] { frames := 5, cells := 0, slots := 0, locals := 66 } #[(.ref p1), (.ref p2)] h0 (fun v h => v = some (.int (own_cu [a0, a1] [b0] (2 : Int32) (1 : Int32))) ∧ h0 = h) := by
  refine Does.start (plainFor_of_name pn_3) ?_
  obtain ⟨hS, S_ad, S_hi, S_lo⟩ := id hU
  obtain ⟨S_zc, hzc, S_fm, hfm⟩ := id hS
  intro p e s m below meth c T X
  replace X : Sd Z n0 0 prog_41_method_13_code 6 "com/example/whole_session/wholesession/Run" "compareUtf8" (some .int) h0 p l e { frames := 5, cells := 0, slots := 0, locals := 66 } s m #[(.ref p1), (.ref p2)] below meth c T [] 0 0 := X
  refine Wp.cast (g' := mkF m 0 #[.val (.ref p1), .val (.ref p2), .unset, .unset, .unset, .unset] []) (by first | (simp [entryFrame, mkF, argsToLocals, Value.category, maxLocals]; done) | rfl) ?_
  refine w_aloadN X dprog_41_13_0 rfl (rfl) ?_
  refine w_callV X dprog_41_13_1 (wd_42 hw) (wd_43 hw) (notFace_of_selects (args := #[]) (mvT X.hZ (wd_45 hw))) (wd_45 hw) (wd_44 hw) (wd_7 hw) (wd_46 hw) (by decide) Ta.1 (argsL := []) (S := []) (m_tlen_2 hw hS Ta) pd_13 rfl rfl rfl (by decide) (Nat.le_of_ble_eq_true rfl) (by decide) (by decide) (fun T h1 v1 L1 X q1 => ?_)
  obtain ⟨rfl, rfl⟩ := q1
  show Wp p e below _ (T.setTop (mkF m 4 #[.val (.ref p1), .val (.ref p2), .unset, .unset, .unset, .unset] [(.int (2 : Int32))]))
  refine w_aloadN X dprog_41_13_4 rfl (rfl) ?_
  refine w_callV X dprog_41_13_5 (wd_42 hw) (wd_43 hw) (notFace_of_selects (args := #[]) (mvT X.hZ (wd_45 hw))) (wd_45 hw) (wd_44 hw) (wd_7 hw) (wd_46 hw) (by decide) Tb.1 (argsL := []) (S := [(.int (2 : Int32))]) (m_tlen_1 hw hS Tb) pd_13 rfl rfl rfl (by decide) (Nat.le_of_ble_eq_true rfl) (by decide) (by decide) (fun T h2 v2 L2 X q2 => ?_)
  obtain ⟨rfl, rfl⟩ := q2
  show Wp p e below _ (T.setTop (mkF m 8 #[.val (.ref p1), .val (.ref p2), .unset, .unset, .unset, .unset] [(.int (1 : Int32)), (.int (2 : Int32))]))
  refine w_callS X dprog_41_13_8 (wd_52 hw) (wd_53 hw) (wd_54 hw) (wd_55 hw) (by decide) (argsL := [(.int (2 : Int32)), (.int (1 : Int32))]) (S := []) (m_min hw (r := (1 : Int32)) (by decide)) pd_1 rfl rfl rfl (by decide) (Nat.le_of_ble_eq_true rfl) (by decide) (by decide) (fun T h3 v3 L3 X q3 => ?_)
  obtain ⟨rfl, rfl⟩ := q3
  show Wp p e below _ (T.setTop (mkF m 11 #[.val (.ref p1), .val (.ref p2), .unset, .unset, .unset, .unset] [(.int (1 : Int32))]))
  refine w_istoreN X #[.val (.ref p1), .val (.ref p2), .val (.int (1 : Int32)), .unset, .unset, .unset] dprog_41_13_11 rfl ?_
  refine w_iconst X (0 : Int32) dprog_41_13_12 rfl ?_
  refine w_istoreN X #[.val (.ref p1), .val (.ref p2), .val (.int (1 : Int32)), .val (.int (0 : Int32)), .unset, .unset] dprog_41_13_13 rfl ?_
  refine w_iloadN X dprog_41_13_14 rfl ?_
  refine w_iloadN X dprog_41_13_15 rfl ?_
  refine w_icmpge X dprog_41_13_16 (fun hc => absurd (by decide) hc) (fun _ => ?_)
  refine w_aloadN X dprog_41_13_19 rfl (rfl) ?_
  refine w_iloadN X dprog_41_13_20 rfl ?_
  refine w_callV X dprog_41_13_21 (wd_67 hw) (wd_68 hw) (notFace_of_selects (args := #[]) (mvT X.hZ (wd_70 hw))) (wd_70 hw) (wd_69 hw) (wd_7 hw) (wd_71 hw) (by decide) Ta.1 (argsL := [(.int (0 : Int32))]) (S := []) (m_tca_2_0 hw hU Ta ha0) pd_19 rfl rfl rfl (by decide) (Nat.le_of_ble_eq_true rfl) (by decide) (by decide) (fun T h4 v4 L4 X q4 => ?_)
  obtain ⟨rfl, rfl⟩ := q4
  show Wp p e below _ (T.setTop (mkF m 24 #[.val (.ref p1), .val (.ref p2), .val (.int (1 : Int32)), .val (.int (0 : Int32)), .unset, .unset] [(.int a0)]))
  refine w_istore X #[.val (.ref p1), .val (.ref p2), .val (.int (1 : Int32)), .val (.int (0 : Int32)), .val (.int a0), .unset] dprog_41_13_24 rfl ?_
  refine w_aloadN X dprog_41_13_26 rfl (rfl) ?_
  refine w_iloadN X dprog_41_13_27 rfl ?_
  refine w_callV X dprog_41_13_28 (wd_67 hw) (wd_68 hw) (notFace_of_selects (args := #[]) (mvT X.hZ (wd_70 hw))) (wd_70 hw) (wd_69 hw) (wd_7 hw) (wd_71 hw) (by decide) Tb.1 (argsL := [(.int (0 : Int32))]) (S := []) (m_tca_1_0 hw hU Tb hb0) pd_19 rfl rfl rfl (by decide) (Nat.le_of_ble_eq_true rfl) (by decide) (by decide) (fun T h5 v5 L5 X q5 => ?_)
  obtain ⟨rfl, rfl⟩ := q5
  show Wp p e below _ (T.setTop (mkF m 31 #[.val (.ref p1), .val (.ref p2), .val (.int (1 : Int32)), .val (.int (0 : Int32)), .val (.int a0), .unset] [(.int b0)]))
  refine w_istore X #[.val (.ref p1), .val (.ref p2), .val (.int (1 : Int32)), .val (.int (0 : Int32)), .val (.int a0), .val (.int b0)] dprog_41_13_31 rfl ?_
  refine w_iload X dprog_41_13_33 rfl ?_
  refine w_iload X dprog_41_13_35 rfl ?_
  refine w_icmpeq X dprog_41_13_37 (fun (hc37 : a0 = b0) => ?_) (fun (hc37 : ¬ a0 = b0) => ?_)
  · refine w_iinc X (1 : Int32) #[.val (.ref p1), .val (.ref p2), .val (.int (1 : Int32)), .val (.int (1 : Int32)), .val (.int a0), .val (.int b0)] dprog_41_13_54 rfl rfl rfl ?_
    refine w_goto X dprog_41_13_57 ?_
    refine w_iloadN X dprog_41_13_14 rfl ?_
    refine w_iloadN X dprog_41_13_15 rfl ?_
    refine w_icmpge X dprog_41_13_16 (fun _ => ?_) (fun hc => absurd hc Int32.lt_irrefl)
    refine w_aloadN X dprog_41_13_60 rfl (rfl) ?_
    refine w_callV X dprog_41_13_61 (wd_42 hw) (wd_43 hw) (notFace_of_selects (args := #[]) (mvT X.hZ (wd_45 hw))) (wd_45 hw) (wd_44 hw) (wd_7 hw) (wd_46 hw) (by decide) Ta.1 (argsL := []) (S := []) (m_tlen_2 hw hS Ta) pd_13 rfl rfl rfl (by decide) (Nat.le_of_ble_eq_true rfl) (by decide) (by decide) (fun T h6 v6 L6 X q6 => ?_)
    obtain ⟨rfl, rfl⟩ := q6
    show Wp p e below _ (T.setTop (mkF m 64 #[.val (.ref p1), .val (.ref p2), .val (.int (1 : Int32)), .val (.int (1 : Int32)), .val (.int a0), .val (.int b0)] [(.int (2 : Int32))]))
    refine w_aloadN X dprog_41_13_64 rfl (rfl) ?_
    refine w_callV X dprog_41_13_65 (wd_42 hw) (wd_43 hw) (notFace_of_selects (args := #[]) (mvT X.hZ (wd_45 hw))) (wd_45 hw) (wd_44 hw) (wd_7 hw) (wd_46 hw) (by decide) Tb.1 (argsL := []) (S := [(.int (2 : Int32))]) (m_tlen_1 hw hS Tb) pd_13 rfl rfl rfl (by decide) (Nat.le_of_ble_eq_true rfl) (by decide) (by decide) (fun T h7 v7 L7 X q7 => ?_)
    obtain ⟨rfl, rfl⟩ := q7
    show Wp p e below _ (T.setTop (mkF m 68 #[.val (.ref p1), .val (.ref p2), .val (.int (1 : Int32)), .val (.int (1 : Int32)), .val (.int a0), .val (.int b0)] [(.int (1 : Int32)), (.int (2 : Int32))]))
    refine w_callS X dprog_41_13_68 (wd_56 hw) (wd_57 hw) (wd_58 hw) (wd_59 hw) (by decide) (argsL := [(.int (2 : Int32)), (.int (1 : Int32))]) (S := []) (m_ic hw (x0 := (2 : Int32)) (y0 := (1 : Int32))) pd_1 rfl rfl rfl (by decide) (Nat.le_of_ble_eq_true rfl) (by decide) (by decide) (fun T h8 v8 L8 X q8 => ?_)
    obtain ⟨rfl, rfl⟩ := q8
    show Wp p e below _ (T.setTop (mkF m 71 #[.val (.ref p1), .val (.ref p2), .val (.int (1 : Int32)), .val (.int (1 : Int32)), .val (.int a0), .val (.int b0)] [(.int (own_icmp (2 : Int32) (1 : Int32)))]))
    exact w_retI X dprog_41_13_71 ⟨by simp only [own_cu, *, if_true, if_false], rfl⟩ (by decide) (by decide)
  · refine w_iload X dprog_41_13_40 rfl ?_
    refine w_callS X dprog_41_13_42 (wd_89 hw) (wd_90 hw) (wd_40 hw) (wd_91 hw) (by decide) (argsL := [(.int a0)]) (S := []) (m_cpo hw (x0 := a0)) pd_2 rfl rfl rfl (by decide) (Nat.le_of_ble_eq_true rfl) (by decide) (by decide) (fun T h9 v9 L9 X q9 => ?_)
    obtain ⟨rfl, rfl⟩ := q9
    show Wp p e below _ (T.setTop (mkF m 45 #[.val (.ref p1), .val (.ref p2), .val (.int (1 : Int32)), .val (.int (0 : Int32)), .val (.int a0), .val (.int b0)] [(.int (own_cpo a0))]))
    refine w_iload X dprog_41_13_45 rfl ?_
    refine w_callS X dprog_41_13_47 (wd_89 hw) (wd_90 hw) (wd_40 hw) (wd_91 hw) (by decide) (argsL := [(.int b0)]) (S := [(.int (own_cpo a0))]) (m_cpo hw (x0 := b0)) pd_2 rfl rfl rfl (by decide) (Nat.le_of_ble_eq_true rfl) (by decide) (by decide) (fun T h10 v10 L10 X q10 => ?_)
    obtain ⟨rfl, rfl⟩ := q10
    show Wp p e below _ (T.setTop (mkF m 50 #[.val (.ref p1), .val (.ref p2), .val (.int (1 : Int32)), .val (.int (0 : Int32)), .val (.int a0), .val (.int b0)] [(.int (own_cpo b0)), (.int (own_cpo a0))]))
    refine w_callS X dprog_41_13_50 (wd_56 hw) (wd_57 hw) (wd_58 hw) (wd_59 hw) (by decide) (argsL := [(.int (own_cpo a0)), (.int (own_cpo b0))]) (S := []) (m_ic hw (x0 := (own_cpo a0)) (y0 := (own_cpo b0))) pd_1 rfl rfl rfl (by decide) (Nat.le_of_ble_eq_true rfl) (by decide) (by decide) (fun T h11 v11 L11 X q11 => ?_)
    obtain ⟨rfl, rfl⟩ := q11
    show Wp p e below _ (T.setTop (mkF m 53 #[.val (.ref p1), .val (.ref p2), .val (.int (1 : Int32)), .val (.int (0 : Int32)), .val (.int a0), .val (.int b0)] [(.int (own_icmp (own_cpo a0) (own_cpo b0)))]))
    exact w_retI X dprog_41_13_53 ⟨by simp only [own_cu, *, if_true, if_false], rfl⟩ (by decide) (by decide)
set_option maxRecDepth 65536 in
set_option maxHeartbeats 40000000 in
theorem m_lca_2_1 {l : Launch} {Z : State} {a0 : Array Value} {n0 : Nat} (hw : ∀ d ∈ tables_1, d.before a0 Z = true) {h0 : Heap} {zc : Int32} {fm : Value} {t : Addr} {x0 x1 : Int32} (hS : own_S Z zc fm) (At : Ary Z h0 t .byte [(.int x0), (.int x1)]) :
    Does l Z n0 ⟨"java/lang/StringLatin1", "charAt", "([BI)C"⟩ jdk_43_method_2_code 2 (some .char) [] { frames := 2, cells := 0, slots := 0, locals := 27 } #[(.ref t), (.int (1 : Int32))] h0 (fun v h => v = some (.int ((x1 &&& (255 : Int32)).toUInt32.toUInt16.toUInt32.toInt32)) ∧ h0 = h) := by
  refine Does.start (plainFor_of_name pn_7) ?_
  obtain ⟨S_zc, hzc, S_fm, hfm⟩ := id hS
  intro p e s m below meth c T X
  replace X : Sd Z n0 0 jdk_43_method_2_code 2 "java/lang/StringLatin1" "charAt" (some .char) h0 p l e { frames := 2, cells := 0, slots := 0, locals := 27 } s m #[(.ref t), (.int (1 : Int32))] below meth c T [] 0 0 := X
  refine Wp.cast (g' := mkF m 0 #[.val (.ref t), .val (.int (1 : Int32))] []) (by first | (simp [entryFrame, mkF, argsToLocals, Value.category, maxLocals]; done) | rfl) ?_
  refine w_iloadN X djdk_43_2_0 rfl ?_
  refine w_aloadN X djdk_43_2_1 rfl (rfl) ?_
  refine w_arrlen X (2 : Int32) djdk_43_2_2 At rfl ?_
  refine w_callS X djdk_43_2_3 (wd_81 hw) (wd_82 hw) (wd_7 hw) (wd_83 hw) (by decide) (argsL := [(.int (1 : Int32)), (.int (2 : Int32))]) (S := []) (m_sci hw hS (by decide) (by decide)) pd_15 rfl rfl rfl (by decide) (Nat.le_of_ble_eq_true rfl) (by decide) (by decide) (fun T h1 v1 L1 X q1 => ?_)
  obtain ⟨rfl, rfl⟩ := q1
  show Wp p e below _ (T.setTop (mkF m 6 #[.val (.ref t), .val (.int (1 : Int32))] []))
  refine w_aloadN X djdk_43_2_6 rfl (rfl) ?_
  refine w_iloadN X djdk_43_2_7 rfl ?_
  refine w_baload X djdk_43_2_8 At (by decide) rfl ?_
  refine w_sipush X (255 : Int32) djdk_43_2_9 rfl ?_
  refine w_iand X djdk_43_2_12 ?_
  refine w_i2c X djdk_43_2_13 ?_
  exact w_ret_char X ((x1 &&& (255 : Int32)).toUInt32.toUInt16.toUInt32.toInt32) (own_nar_c _) djdk_43_2_14 ⟨rfl, rfl⟩ (by decide) (by decide)
set_option maxRecDepth 65536 in
set_option maxHeartbeats 40000000 in
theorem m_uci_2_1 {l : Launch} {Z : State} {a0 : Array Value} {n0 : Nat} (hw : ∀ d ∈ tables_1, d.before a0 Z = true) {h0 : Heap} {zc : Int32} {fm : Value} {a : Addr} {x0 x1 x2 x3 : Int32} (hS : own_S Z zc fm) (Aa : Ary Z h0 a .byte [(.int x0), (.int x1), (.int x2), (.int x3)]) :
    Does l Z n0 ⟨"java/lang/StringUTF16", "checkIndex", "(I[B)V"⟩ jdk_52_method_91_code 2 none [] { frames := 2, cells := 0, slots := 0, locals := 27 } #[(.int (1 : Int32)), (.ref a)] h0 (fun v h => v = none ∧ h0 = h) := by
  refine Does.start (plainFor_of_name pn_5) ?_
  obtain ⟨S_zc, hzc, S_fm, hfm⟩ := id hS
  intro p e s m below meth c T X
  replace X : Sd Z n0 0 jdk_52_method_91_code 2 "java/lang/StringUTF16" "checkIndex" none h0 p l e { frames := 2, cells := 0, slots := 0, locals := 27 } s m #[(.int (1 : Int32)), (.ref a)] below meth c T [] 0 0 := X
  refine Wp.cast (g' := mkF m 0 #[.val (.int (1 : Int32)), .val (.ref a)] []) (by first | (simp [entryFrame, mkF, argsToLocals, Value.category, maxLocals]; done) | rfl) ?_
  refine w_iloadN X djdk_52_91_0 rfl ?_
  refine w_aloadN X djdk_52_91_1 rfl (rfl) ?_
  refine w_callS X djdk_52_91_2 (wd_126 hw) (wd_127 hw) (wd_22 hw) (wd_128 hw) (by decide) (argsL := [(.ref a)]) (S := [(.int (1 : Int32))]) (m_ulen_2 hw Aa) pd_16 rfl rfl rfl (by decide) (Nat.le_of_ble_eq_true rfl) (by decide) (by decide) (fun T h1 v1 L1 X q1 => ?_)
  obtain ⟨rfl, rfl⟩ := q1
  show Wp p e below _ (T.setTop (mkF m 5 #[.val (.int (1 : Int32)), .val (.ref a)] [(.int (2 : Int32)), (.int (1 : Int32))]))
  refine w_callS X djdk_52_91_5 (wd_129 hw) (wd_82 hw) (wd_7 hw) (wd_83 hw) (by decide) (argsL := [(.int (1 : Int32)), (.int (2 : Int32))]) (S := []) (m_sci hw hS (by decide) (by decide)) pd_15 rfl rfl rfl (by decide) (Nat.le_of_ble_eq_true rfl) (by decide) (by decide) (fun T h2 v2 L2 X q2 => ?_)
  obtain ⟨rfl, rfl⟩ := q2
  show Wp p e below _ (T.setTop (mkF m 8 #[.val (.int (1 : Int32)), .val (.ref a)] []))
  exact w_retV X djdk_52_91_8 ⟨rfl, rfl⟩ (by decide) (by decide)
set_option maxRecDepth 65536 in
set_option maxHeartbeats 40000000 in
theorem m_uca_2_1 {l : Launch} {Z : State} {a0 : Array Value} {n0 : Nat} (hw : ∀ d ∈ tables_1, d.before a0 Z = true) {h0 : Heap} {zc : Int32} {fm : Value} {a : Addr} {c0 c1 : Int32} (hU : own_U Z zc fm) (Aa : Ary Z h0 a .byte [(.int ((c0 >>> ((0 : Int32) &&& 31)).toInt8.toInt32)), (.int ((c0 >>> ((8 : Int32) &&& 31)).toInt8.toInt32)), (.int ((c1 >>> ((0 : Int32) &&& 31)).toInt8.toInt32)), (.int ((c1 >>> ((8 : Int32) &&& 31)).toInt8.toInt32))]) (nk : nar .char c1 = c1) :
    Does l Z n0 ⟨"java/lang/StringUTF16", "charAt", "([BI)C"⟩ jdk_52_method_83_code 2 (some .char) [] { frames := 3, cells := 0, slots := 0, locals := 40 } #[(.ref a), (.int (1 : Int32))] h0 (fun v h => v = some (.int c1) ∧ h0 = h) := by
  refine Does.start (plainFor_of_name pn_5) ?_
  obtain ⟨hS, S_ad, S_hi, S_lo⟩ := id hU
  obtain ⟨S_zc, hzc, S_fm, hfm⟩ := id hS
  intro p e s m below meth c T X
  replace X : Sd Z n0 0 jdk_52_method_83_code 2 "java/lang/StringUTF16" "charAt" (some .char) h0 p l e { frames := 3, cells := 0, slots := 0, locals := 40 } s m #[(.ref a), (.int (1 : Int32))] below meth c T [] 0 0 := X
  refine Wp.cast (g' := mkF m 0 #[.val (.ref a), .val (.int (1 : Int32))] []) (by first | (simp [entryFrame, mkF, argsToLocals, Value.category, maxLocals]; done) | rfl) ?_
  refine w_iloadN X djdk_52_83_0 rfl ?_
  refine w_aloadN X djdk_52_83_1 rfl (rfl) ?_
  refine w_callS X djdk_52_83_2 (wd_123 hw) (wd_124 hw) (wd_22 hw) (wd_125 hw) (by decide) (argsL := [(.int (1 : Int32)), (.ref a)]) (S := []) (m_uci_2_1 hw hS Aa) pd_17 rfl rfl rfl (by decide) (Nat.le_of_ble_eq_true rfl) (by decide) (by decide) (fun T h1 v1 L1 X q1 => ?_)
  obtain ⟨rfl, rfl⟩ := q1
  show Wp p e below _ (T.setTop (mkF m 5 #[.val (.ref a), .val (.int (1 : Int32))] []))
  refine w_aloadN X djdk_52_83_5 rfl (rfl) ?_
  refine w_iloadN X djdk_52_83_6 rfl ?_
  refine w_callS X djdk_52_83_7 (wd_117 hw) (wd_118 hw) (wd_22 hw) (wd_119 hw) (by decide) (argsL := [(.ref a), (.int (1 : Int32))]) (S := []) (m_getc_2_1 hw (r := c1) hU Aa (own_utf nk)) pd_11 rfl rfl rfl (by decide) (Nat.le_of_ble_eq_true rfl) (by decide) (by decide) (fun T h2 v2 L2 X q2 => ?_)
  obtain ⟨rfl, rfl⟩ := q2
  show Wp p e below _ (T.setTop (mkF m 10 #[.val (.ref a), .val (.int (1 : Int32))] [(.int c1)]))
  exact w_ret_char X c1 nk djdk_52_83_10 ⟨rfl, rfl⟩ (by decide) (by decide)
set_option maxRecDepth 65536 in
set_option maxHeartbeats 40000000 in
theorem m_tca_2_1 {l : Launch} {Z : State} {a0 : Array Value} {n0 : Nat} (hw : ∀ d ∈ tables_1, d.before a0 Z = true) {h0 : Heap} {zc : Int32} {fm : Value} {a t : Addr} {c0 c1 : Int32} (hU : own_U Z zc fm) (Tx : Txt Z h0 a t [c0, c1]) (nk : nar .char c1 = c1) :
    Does l Z n0 ⟨"java/lang/String", "charAt", "(I)C"⟩ jdk_42_method_56_code 2 (some .char) [] { frames := 4, cells := 0, slots := 0, locals := 53 } #[(.ref a), (.int (1 : Int32))] h0 (fun v h => v = some (.int c1) ∧ h0 = h) := by
  refine Does.start (plainFor_of_name pn_4) ?_
  obtain ⟨hS, S_ad, S_hi, S_lo⟩ := id hU
  obtain ⟨S_zc, hzc, S_fm, hfm⟩ := id hS
  intro p e s m below meth c T X
  replace X : Sd Z n0 0 jdk_42_method_56_code 2 "java/lang/String" "charAt" (some .char) h0 p l e { frames := 4, cells := 0, slots := 0, locals := 53 } s m #[(.ref a), (.int (1 : Int32))] below meth c T [] 0 0 := X
  refine Wp.cast (g' := mkF m 0 #[.val (.ref a), .val (.int (1 : Int32))] []) (by first | (simp [entryFrame, mkF, argsToLocals, Value.category, maxLocals]; done) | rfl) ?_
  obtain ⟨Ea, Va, hT⟩ := Tx
  rcases hT with ⟨Ca, At, hl⟩ | ⟨Ca, At⟩
  · replace At : Ary Z h0 t .byte [(.int (c0.toInt8.toInt32)), (.int (c1.toInt8.toInt32))] := At
    refine w_aloadN X djdk_42_56_0 rfl (rfl) ?_
    refine w_callV X djdk_42_56_1 (wd_72 hw) (wd_73 hw) (notFace_of_selects (args := #[]) (mvT X.hZ (wd_75 hw))) (wd_75 hw) (wd_74 hw) (wd_7 hw) (wd_76 hw) (by decide) Ea (argsL := []) (S := []) (m_isl hw hS Ca) pd_18 rfl rfl rfl (by decide) (Nat.le_of_ble_eq_true rfl) (by decide) (by decide) (fun T h1 v1 L1 X q1 => ?_)
    obtain ⟨rfl, rfl⟩ := q1
    show Wp p e below _ (T.setTop (mkF m 4 #[.val (.ref a), .val (.int (1 : Int32))] [(.int (1 : Int32))]))
    refine w_ifeq X djdk_42_56_4 (fun hc => absurd hc (by decide)) (fun _ => ?_)
    refine w_aloadN X djdk_42_56_7 rfl (rfl) ?_
    refine w_getF X djdk_42_56_8 (host := "") (Or.inl (wd_33 hw)) Via.refl Va (fun T X => ?_)
    refine w_iloadN X djdk_42_56_11 rfl ?_
    refine w_callS X djdk_42_56_12 (wd_77 hw) (wd_78 hw) (wd_79 hw) (wd_80 hw) (by decide) (argsL := [(.ref t), (.int (1 : Int32))]) (S := []) (m_lca_2_1 hw hS At) pd_11 rfl rfl rfl (by decide) (Nat.le_of_ble_eq_true rfl) (by decide) (by decide) (fun T h2 v2 L2 X q2 => ?_)
    obtain ⟨rfl, rfl⟩ := q2
    show Wp p e below _ (T.setTop (mkF m 15 #[.val (.ref a), .val (.int (1 : Int32))] [(.int (((c1.toInt8.toInt32) &&& (255 : Int32)).toUInt32.toUInt16.toUInt32.toInt32))]))
    exact w_ret_char X (((c1.toInt8.toInt32) &&& (255 : Int32)).toUInt32.toUInt16.toUInt32.toInt32) (own_nar_c _) djdk_42_56_15 ⟨by rw [own_lat nk (hl c1 (List.mem_of_getElem? (i := 1) rfl))], rfl⟩ (by decide) (by decide)
  · replace At : Ary Z h0 t .byte [(.int ((c0 >>> ((0 : Int32) &&& 31)).toInt8.toInt32)), (.int ((c0 >>> ((8 : Int32) &&& 31)).toInt8.toInt32)), (.int ((c1 >>> ((0 : Int32) &&& 31)).toInt8.toInt32)), (.int ((c1 >>> ((8 : Int32) &&& 31)).toInt8.toInt32))] := At
    refine w_aloadN X djdk_42_56_0 rfl (rfl) ?_
    refine w_callV X djdk_42_56_1 (wd_72 hw) (wd_73 hw) (notFace_of_selects (args := #[]) (mvT X.hZ (wd_75 hw))) (wd_75 hw) (wd_74 hw) (wd_7 hw) (wd_76 hw) (by decide) Ea (argsL := []) (S := []) (m_isl1 hw hS Ca) pd_18 rfl rfl rfl (by decide) (Nat.le_of_ble_eq_true rfl) (by decide) (by decide) (fun T h3 v3 L3 X q3 => ?_)
    obtain ⟨rfl, rfl⟩ := q3
    show Wp p e below _ (T.setTop (mkF m 4 #[.val (.ref a), .val (.int (1 : Int32))] [(.int (0 : Int32))]))
    refine w_ifeq X djdk_42_56_4 (fun _ => ?_) (fun hc => absurd rfl hc)
    refine w_aloadN X djdk_42_56_16 rfl (rfl) ?_
    refine w_getF X djdk_42_56_17 (host := "") (Or.inl (wd_33 hw)) Via.refl Va (fun T X => ?_)
    refine w_iloadN X djdk_42_56_20 rfl ?_
    refine w_callS X djdk_42_56_21 (wd_120 hw) (wd_121 hw) (wd_22 hw) (wd_122 hw) (by decide) (argsL := [(.ref t), (.int (1 : Int32))]) (S := []) (m_uca_2_1 hw hU At nk) pd_11 rfl rfl rfl (by decide) (Nat.le_of_ble_eq_true rfl) (by decide) (by decide) (fun T h4 v4 L4 X q4 => ?_)
    obtain ⟨rfl, rfl⟩ := q4
    show Wp p e below _ (T.setTop (mkF m 24 #[.val (.ref a), .val (.int (1 : Int32))] [(.int c1)]))
    exact w_ret_char X c1 nk djdk_42_56_24 ⟨rfl, rfl⟩ (by decide) (by decide)
set_option maxRecDepth 65536 in
set_option maxHeartbeats 40000000 in
theorem m_cu_2_2 {l : Launch} {Z : State} {a0 : Array Value} {n0 : Nat} (hw : ∀ d ∈ tables_1, d.before a0 Z = true) {h0 : Heap} {zc : Int32} {fm : Value} {p1 p2 t1 t2 : Addr} {a0 a1 b0 b1 : Int32} (hU : own_U Z zc fm) (Ta : Txt Z h0 p1 t1 [a0, a1]) (Tb : Txt Z h0 p2 t2 [b0, b1]) (ha0 : nar .char a0 = a0) (ha1 : nar .char a1 = a1) (hb0 : nar .char b0 = b0) (hb1 : nar .char b1 = b1) :
    Does l Z n0 ⟨"com/example/whole_session/wholesession/Run", "compareUtf8", "(Ljava/lang/String;Ljava/lang/String;)I"⟩ prog_41_method_13_code 6 (some .int) [] { frames := 5, cells := 0, slots := 0, locals := 66 } #[(.ref p1), (.ref p2)] h0 (fun v h => v = some (.int (own_cu [a0, a1] [b0, b1] (2 : Int32) (2 : Int32))) ∧ h0 = h) := by
  refine Does.start (plainFor_of_name pn_3) ?_
  obtain ⟨hS, S_ad, S_hi, S_lo⟩ := id hU
  obtain ⟨S_zc, hzc, S_fm, hfm⟩ := id hS
  intro p e s m below meth c T X
  replace X : Sd Z n0 0 prog_41_method_13_code 6 "com/example/whole_session/wholesession/Run" "compareUtf8" (some .int) h0 p l e { frames := 5, cells := 0, slots := 0, locals := 66 } s m #[(.ref p1), (.ref p2)] below meth c T [] 0 0 := X
  refine Wp.cast (g' := mkF m 0 #[.val (.ref p1), .val (.ref p2), .unset, .unset, .unset, .unset] []) (by first | (simp [entryFrame, mkF, argsToLocals, Value.category, maxLocals]; done) | rfl) ?_
  refine w_aloadN X dprog_41_13_0 rfl (rfl) ?_
  refine w_callV X dprog_41_13_1 (wd_42 hw) (wd_43 hw) (notFace_of_selects (args := #[]) (mvT X.hZ (wd_45 hw))) (wd_45 hw) (wd_44 hw) (wd_7 hw) (wd_46 hw) (by decide) Ta.1 (argsL := []) (S := []) (m_tlen_2 hw hS Ta) pd_13 rfl rfl rfl (by decide) (Nat.le_of_ble_eq_true rfl) (by decide) (by decide) (fun T h1 v1 L1 X q1 => ?_)
  obtain ⟨rfl, rfl⟩ := q1
  show Wp p e below _ (T.setTop (mkF m 4 #[.val (.ref p1), .val (.ref p2), .unset, .unset, .unset, .unset] [(.int (2 : Int32))]))
  refine w_aloadN X dprog_41_13_4 rfl (rfl) ?_
  refine w_callV X dprog_41_13_5 (wd_42 hw) (wd_43 hw) (notFace_of_selects (args := #[]) (mvT X.hZ (wd_45 hw))) (wd_45 hw) (wd_44 hw) (wd_7 hw) (wd_46 hw) (by decide) Tb.1 (argsL := []) (S := [(.int (2 : Int32))]) (m_tlen_2 hw hS Tb) pd_13 rfl rfl rfl (by decide) (Nat.le_of_ble_eq_true rfl) (by decide) (by decide) (fun T h2 v2 L2 X q2 => ?_)
  obtain ⟨rfl, rfl⟩ := q2
  show Wp p e below _ (T.setTop (mkF m 8 #[.val (.ref p1), .val (.ref p2), .unset, .unset, .unset, .unset] [(.int (2 : Int32)), (.int (2 : Int32))]))
  refine w_callS X dprog_41_13_8 (wd_52 hw) (wd_53 hw) (wd_54 hw) (wd_55 hw) (by decide) (argsL := [(.int (2 : Int32)), (.int (2 : Int32))]) (S := []) (m_min hw (r := (2 : Int32)) (by decide)) pd_1 rfl rfl rfl (by decide) (Nat.le_of_ble_eq_true rfl) (by decide) (by decide) (fun T h3 v3 L3 X q3 => ?_)
  obtain ⟨rfl, rfl⟩ := q3
  show Wp p e below _ (T.setTop (mkF m 11 #[.val (.ref p1), .val (.ref p2), .unset, .unset, .unset, .unset] [(.int (2 : Int32))]))
  refine w_istoreN X #[.val (.ref p1), .val (.ref p2), .val (.int (2 : Int32)), .unset, .unset, .unset] dprog_41_13_11 rfl ?_
  refine w_iconst X (0 : Int32) dprog_41_13_12 rfl ?_
  refine w_istoreN X #[.val (.ref p1), .val (.ref p2), .val (.int (2 : Int32)), .val (.int (0 : Int32)), .unset, .unset] dprog_41_13_13 rfl ?_
  refine w_iloadN X dprog_41_13_14 rfl ?_
  refine w_iloadN X dprog_41_13_15 rfl ?_
  refine w_icmpge X dprog_41_13_16 (fun hc => absurd (by decide) hc) (fun _ => ?_)
  refine w_aloadN X dprog_41_13_19 rfl (rfl) ?_
  refine w_iloadN X dprog_41_13_20 rfl ?_
  refine w_callV X dprog_41_13_21 (wd_67 hw) (wd_68 hw) (notFace_of_selects (args := #[]) (mvT X.hZ (wd_70 hw))) (wd_70 hw) (wd_69 hw) (wd_7 hw) (wd_71 hw) (by decide) Ta.1 (argsL := [(.int (0 : Int32))]) (S := []) (m_tca_2_0 hw hU Ta ha0) pd_19 rfl rfl rfl (by decide) (Nat.le_of_ble_eq_true rfl) (by decide) (by decide) (fun T h4 v4 L4 X q4 => ?_)
  obtain ⟨rfl, rfl⟩ := q4
  show Wp p e below _ (T.setTop (mkF m 24 #[.val (.ref p1), .val (.ref p2), .val (.int (2 : Int32)), .val (.int (0 : Int32)), .unset, .unset] [(.int a0)]))
  refine w_istore X #[.val (.ref p1), .val (.ref p2), .val (.int (2 : Int32)), .val (.int (0 : Int32)), .val (.int a0), .unset] dprog_41_13_24 rfl ?_
  refine w_aloadN X dprog_41_13_26 rfl (rfl) ?_
  refine w_iloadN X dprog_41_13_27 rfl ?_
  refine w_callV X dprog_41_13_28 (wd_67 hw) (wd_68 hw) (notFace_of_selects (args := #[]) (mvT X.hZ (wd_70 hw))) (wd_70 hw) (wd_69 hw) (wd_7 hw) (wd_71 hw) (by decide) Tb.1 (argsL := [(.int (0 : Int32))]) (S := []) (m_tca_2_0 hw hU Tb hb0) pd_19 rfl rfl rfl (by decide) (Nat.le_of_ble_eq_true rfl) (by decide) (by decide) (fun T h5 v5 L5 X q5 => ?_)
  obtain ⟨rfl, rfl⟩ := q5
  show Wp p e below _ (T.setTop (mkF m 31 #[.val (.ref p1), .val (.ref p2), .val (.int (2 : Int32)), .val (.int (0 : Int32)), .val (.int a0), .unset] [(.int b0)]))
  refine w_istore X #[.val (.ref p1), .val (.ref p2), .val (.int (2 : Int32)), .val (.int (0 : Int32)), .val (.int a0), .val (.int b0)] dprog_41_13_31 rfl ?_
  refine w_iload X dprog_41_13_33 rfl ?_
  refine w_iload X dprog_41_13_35 rfl ?_
  refine w_icmpeq X dprog_41_13_37 (fun (hc37 : a0 = b0) => ?_) (fun (hc37 : ¬ a0 = b0) => ?_)
  · refine w_iinc X (1 : Int32) #[.val (.ref p1), .val (.ref p2), .val (.int (2 : Int32)), .val (.int (1 : Int32)), .val (.int a0), .val (.int b0)] dprog_41_13_54 rfl rfl rfl ?_
    refine w_goto X dprog_41_13_57 ?_
    refine w_iloadN X dprog_41_13_14 rfl ?_
    refine w_iloadN X dprog_41_13_15 rfl ?_
    refine w_icmpge X dprog_41_13_16 (fun hc => absurd (by decide) hc) (fun _ => ?_)
    refine w_aloadN X dprog_41_13_19 rfl (rfl) ?_
    refine w_iloadN X dprog_41_13_20 rfl ?_
    refine w_callV X dprog_41_13_21 (wd_67 hw) (wd_68 hw) (notFace_of_selects (args := #[]) (mvT X.hZ (wd_70 hw))) (wd_70 hw) (wd_69 hw) (wd_7 hw) (wd_71 hw) (by decide) Ta.1 (argsL := [(.int (1 : Int32))]) (S := []) (m_tca_2_1 hw hU Ta ha1) pd_19 rfl rfl rfl (by decide) (Nat.le_of_ble_eq_true rfl) (by decide) (by decide) (fun T h6 v6 L6 X q6 => ?_)
    obtain ⟨rfl, rfl⟩ := q6
    show Wp p e below _ (T.setTop (mkF m 24 #[.val (.ref p1), .val (.ref p2), .val (.int (2 : Int32)), .val (.int (1 : Int32)), .val (.int a0), .val (.int b0)] [(.int a1)]))
    refine w_istore X #[.val (.ref p1), .val (.ref p2), .val (.int (2 : Int32)), .val (.int (1 : Int32)), .val (.int a1), .val (.int b0)] dprog_41_13_24 rfl ?_
    refine w_aloadN X dprog_41_13_26 rfl (rfl) ?_
    refine w_iloadN X dprog_41_13_27 rfl ?_
    refine w_callV X dprog_41_13_28 (wd_67 hw) (wd_68 hw) (notFace_of_selects (args := #[]) (mvT X.hZ (wd_70 hw))) (wd_70 hw) (wd_69 hw) (wd_7 hw) (wd_71 hw) (by decide) Tb.1 (argsL := [(.int (1 : Int32))]) (S := []) (m_tca_2_1 hw hU Tb hb1) pd_19 rfl rfl rfl (by decide) (Nat.le_of_ble_eq_true rfl) (by decide) (by decide) (fun T h7 v7 L7 X q7 => ?_)
    obtain ⟨rfl, rfl⟩ := q7
    show Wp p e below _ (T.setTop (mkF m 31 #[.val (.ref p1), .val (.ref p2), .val (.int (2 : Int32)), .val (.int (1 : Int32)), .val (.int a1), .val (.int b0)] [(.int b1)]))
    refine w_istore X #[.val (.ref p1), .val (.ref p2), .val (.int (2 : Int32)), .val (.int (1 : Int32)), .val (.int a1), .val (.int b1)] dprog_41_13_31 rfl ?_
    refine w_iload X dprog_41_13_33 rfl ?_
    refine w_iload X dprog_41_13_35 rfl ?_
    refine w_icmpeq X dprog_41_13_37 (fun (hc37_1 : a1 = b1) => ?_) (fun (hc37_1 : ¬ a1 = b1) => ?_)
    · refine w_iinc X (1 : Int32) #[.val (.ref p1), .val (.ref p2), .val (.int (2 : Int32)), .val (.int (2 : Int32)), .val (.int a1), .val (.int b1)] dprog_41_13_54 rfl rfl rfl ?_
      refine w_goto X dprog_41_13_57 ?_
      refine w_iloadN X dprog_41_13_14 rfl ?_
      refine w_iloadN X dprog_41_13_15 rfl ?_
      refine w_icmpge X dprog_41_13_16 (fun _ => ?_) (fun hc => absurd hc Int32.lt_irrefl)
      refine w_aloadN X dprog_41_13_60 rfl (rfl) ?_
      refine w_callV X dprog_41_13_61 (wd_42 hw) (wd_43 hw) (notFace_of_selects (args := #[]) (mvT X.hZ (wd_45 hw))) (wd_45 hw) (wd_44 hw) (wd_7 hw) (wd_46 hw) (by decide) Ta.1 (argsL := []) (S := []) (m_tlen_2 hw hS Ta) pd_13 rfl rfl rfl (by decide) (Nat.le_of_ble_eq_true rfl) (by decide) (by decide) (fun T h8 v8 L8 X q8 => ?_)
      obtain ⟨rfl, rfl⟩ := q8
      show Wp p e below _ (T.setTop (mkF m 64 #[.val (.ref p1), .val (.ref p2), .val (.int (2 : Int32)), .val (.int (2 : Int32)), .val (.int a1), .val (.int b1)] [(.int (2 : Int32))]))
      refine w_aloadN X dprog_41_13_64 rfl (rfl) ?_
      refine w_callV X dprog_41_13_65 (wd_42 hw) (wd_43 hw) (notFace_of_selects (args := #[]) (mvT X.hZ (wd_45 hw))) (wd_45 hw) (wd_44 hw) (wd_7 hw) (wd_46 hw) (by decide) Tb.1 (argsL := []) (S := [(.int (2 : Int32))]) (m_tlen_2 hw hS Tb) pd_13 rfl rfl rfl (by decide) (Nat.le_of_ble_eq_true rfl) (by decide) (by decide) (fun T h9 v9 L9 X q9 => ?_)
      obtain ⟨rfl, rfl⟩ := q9
      show Wp p e below _ (T.setTop (mkF m 68 #[.val (.ref p1), .val (.ref p2), .val (.int (2 : Int32)), .val (.int (2 : Int32)), .val (.int a1), .val (.int b1)] [(.int (2 : Int32)), (.int (2 : Int32))]))
      refine w_callS X dprog_41_13_68 (wd_56 hw) (wd_57 hw) (wd_58 hw) (wd_59 hw) (by decide) (argsL := [(.int (2 : Int32)), (.int (2 : Int32))]) (S := []) (m_ic hw (x0 := (2 : Int32)) (y0 := (2 : Int32))) pd_1 rfl rfl rfl (by decide) (Nat.le_of_ble_eq_true rfl) (by decide) (by decide) (fun T h10 v10 L10 X q10 => ?_)
      obtain ⟨rfl, rfl⟩ := q10
      show Wp p e below _ (T.setTop (mkF m 71 #[.val (.ref p1), .val (.ref p2), .val (.int (2 : Int32)), .val (.int (2 : Int32)), .val (.int a1), .val (.int b1)] [(.int (own_icmp (2 : Int32) (2 : Int32)))]))
      exact w_retI X dprog_41_13_71 ⟨by simp only [own_cu, *, if_true, if_false], rfl⟩ (by decide) (by decide)
    · refine w_iload X dprog_41_13_40 rfl ?_
      refine w_callS X dprog_41_13_42 (wd_89 hw) (wd_90 hw) (wd_40 hw) (wd_91 hw) (by decide) (argsL := [(.int a1)]) (S := []) (m_cpo hw (x0 := a1)) pd_2 rfl rfl rfl (by decide) (Nat.le_of_ble_eq_true rfl) (by decide) (by decide) (fun T h11 v11 L11 X q11 => ?_)
      obtain ⟨rfl, rfl⟩ := q11
      show Wp p e below _ (T.setTop (mkF m 45 #[.val (.ref p1), .val (.ref p2), .val (.int (2 : Int32)), .val (.int (1 : Int32)), .val (.int a1), .val (.int b1)] [(.int (own_cpo a1))]))
      refine w_iload X dprog_41_13_45 rfl ?_
      refine w_callS X dprog_41_13_47 (wd_89 hw) (wd_90 hw) (wd_40 hw) (wd_91 hw) (by decide) (argsL := [(.int b1)]) (S := [(.int (own_cpo a1))]) (m_cpo hw (x0 := b1)) pd_2 rfl rfl rfl (by decide) (Nat.le_of_ble_eq_true rfl) (by decide) (by decide) (fun T h12 v12 L12 X q12 => ?_)
      obtain ⟨rfl, rfl⟩ := q12
      show Wp p e below _ (T.setTop (mkF m 50 #[.val (.ref p1), .val (.ref p2), .val (.int (2 : Int32)), .val (.int (1 : Int32)), .val (.int a1), .val (.int b1)] [(.int (own_cpo b1)), (.int (own_cpo a1))]))
      refine w_callS X dprog_41_13_50 (wd_56 hw) (wd_57 hw) (wd_58 hw) (wd_59 hw) (by decide) (argsL := [(.int (own_cpo a1)), (.int (own_cpo b1))]) (S := []) (m_ic hw (x0 := (own_cpo a1)) (y0 := (own_cpo b1))) pd_1 rfl rfl rfl (by decide) (Nat.le_of_ble_eq_true rfl) (by decide) (by decide) (fun T h13 v13 L13 X q13 => ?_)
      obtain ⟨rfl, rfl⟩ := q13
      show Wp p e below _ (T.setTop (mkF m 53 #[.val (.ref p1), .val (.ref p2), .val (.int (2 : Int32)), .val (.int (1 : Int32)), .val (.int a1), .val (.int b1)] [(.int (own_icmp (own_cpo a1) (own_cpo b1)))]))
      exact w_retI X dprog_41_13_53 ⟨by simp only [own_cu, *, if_true, if_false], rfl⟩ (by decide) (by decide)
  · refine w_iload X dprog_41_13_40 rfl ?_
    refine w_callS X dprog_41_13_42 (wd_89 hw) (wd_90 hw) (wd_40 hw) (wd_91 hw) (by decide) (argsL := [(.int a0)]) (S := []) (m_cpo hw (x0 := a0)) pd_2 rfl rfl rfl (by decide) (Nat.le_of_ble_eq_true rfl) (by decide) (by decide) (fun T h14 v14 L14 X q14 => ?_)
    obtain ⟨rfl, rfl⟩ := q14
    show Wp p e below _ (T.setTop (mkF m 45 #[.val (.ref p1), .val (.ref p2), .val (.int (2 : Int32)), .val (.int (0 : Int32)), .val (.int a0), .val (.int b0)] [(.int (own_cpo a0))]))
    refine w_iload X dprog_41_13_45 rfl ?_
    refine w_callS X dprog_41_13_47 (wd_89 hw) (wd_90 hw) (wd_40 hw) (wd_91 hw) (by decide) (argsL := [(.int b0)]) (S := [(.int (own_cpo a0))]) (m_cpo hw (x0 := b0)) pd_2 rfl rfl rfl (by decide) (Nat.le_of_ble_eq_true rfl) (by decide) (by decide) (fun T h15 v15 L15 X q15 => ?_)
    obtain ⟨rfl, rfl⟩ := q15
    show Wp p e below _ (T.setTop (mkF m 50 #[.val (.ref p1), .val (.ref p2), .val (.int (2 : Int32)), .val (.int (0 : Int32)), .val (.int a0), .val (.int b0)] [(.int (own_cpo b0)), (.int (own_cpo a0))]))
    refine w_callS X dprog_41_13_50 (wd_56 hw) (wd_57 hw) (wd_58 hw) (wd_59 hw) (by decide) (argsL := [(.int (own_cpo a0)), (.int (own_cpo b0))]) (S := []) (m_ic hw (x0 := (own_cpo a0)) (y0 := (own_cpo b0))) pd_1 rfl rfl rfl (by decide) (Nat.le_of_ble_eq_true rfl) (by decide) (by decide) (fun T h16 v16 L16 X q16 => ?_)
    obtain ⟨rfl, rfl⟩ := q16
    show Wp p e below _ (T.setTop (mkF m 53 #[.val (.ref p1), .val (.ref p2), .val (.int (2 : Int32)), .val (.int (0 : Int32)), .val (.int a0), .val (.int b0)] [(.int (own_icmp (own_cpo a0) (own_cpo b0)))]))
    exact w_retI X dprog_41_13_53 ⟨by simp only [own_cu, *, if_true, if_false], rfl⟩ (by decide) (by decide)
set_option maxRecDepth 65536 in
set_option maxHeartbeats 40000000 in
theorem m_lca_3_1 {l : Launch} {Z : State} {a0 : Array Value} {n0 : Nat} (hw : ∀ d ∈ tables_1, d.before a0 Z = true) {h0 : Heap} {zc : Int32} {fm : Value} {t : Addr} {x0 x1 x2 : Int32} (hS : own_S Z zc fm) (At : Ary Z h0 t .byte [(.int x0), (.int x1), (.int x2)]) :
    Does l Z n0 ⟨"java/lang/StringLatin1", "charAt", "([BI)C"⟩ jdk_43_method_2_code 2 (some .char) [] { frames := 2, cells := 0, slots := 0, locals := 27 } #[(.ref t), (.int (1 : Int32))] h0 (fun v h => v = some (.int ((x1 &&& (255 : Int32)).toUInt32.toUInt16.toUInt32.toInt32)) ∧ h0 = h) := by
  refine Does.start (plainFor_of_name pn_7) ?_
  obtain ⟨S_zc, hzc, S_fm, hfm⟩ := id hS
  intro p e s m below meth c T X
  replace X : Sd Z n0 0 jdk_43_method_2_code 2 "java/lang/StringLatin1" "charAt" (some .char) h0 p l e { frames := 2, cells := 0, slots := 0, locals := 27 } s m #[(.ref t), (.int (1 : Int32))] below meth c T [] 0 0 := X
  refine Wp.cast (g' := mkF m 0 #[.val (.ref t), .val (.int (1 : Int32))] []) (by first | (simp [entryFrame, mkF, argsToLocals, Value.category, maxLocals]; done) | rfl) ?_
  refine w_iloadN X djdk_43_2_0 rfl ?_
  refine w_aloadN X djdk_43_2_1 rfl (rfl) ?_
  refine w_arrlen X (3 : Int32) djdk_43_2_2 At rfl ?_
  refine w_callS X djdk_43_2_3 (wd_81 hw) (wd_82 hw) (wd_7 hw) (wd_83 hw) (by decide) (argsL := [(.int (1 : Int32)), (.int (3 : Int32))]) (S := []) (m_sci hw hS (by decide) (by decide)) pd_15 rfl rfl rfl (by decide) (Nat.le_of_ble_eq_true rfl) (by decide) (by decide) (fun T h1 v1 L1 X q1 => ?_)
  obtain ⟨rfl, rfl⟩ := q1
  show Wp p e below _ (T.setTop (mkF m 6 #[.val (.ref t), .val (.int (1 : Int32))] []))
  refine w_aloadN X djdk_43_2_6 rfl (rfl) ?_
  refine w_iloadN X djdk_43_2_7 rfl ?_
  refine w_baload X djdk_43_2_8 At (by decide) rfl ?_
  refine w_sipush X (255 : Int32) djdk_43_2_9 rfl ?_
  refine w_iand X djdk_43_2_12 ?_
  refine w_i2c X djdk_43_2_13 ?_
  exact w_ret_char X ((x1 &&& (255 : Int32)).toUInt32.toUInt16.toUInt32.toInt32) (own_nar_c _) djdk_43_2_14 ⟨rfl, rfl⟩ (by decide) (by decide)
set_option maxRecDepth 65536 in
set_option maxHeartbeats 40000000 in
theorem m_uci_3_1 {l : Launch} {Z : State} {a0 : Array Value} {n0 : Nat} (hw : ∀ d ∈ tables_1, d.before a0 Z = true) {h0 : Heap} {zc : Int32} {fm : Value} {a : Addr} {x0 x1 x2 x3 x4 x5 : Int32} (hS : own_S Z zc fm) (Aa : Ary Z h0 a .byte [(.int x0), (.int x1), (.int x2), (.int x3), (.int x4), (.int x5)]) :
    Does l Z n0 ⟨"java/lang/StringUTF16", "checkIndex", "(I[B)V"⟩ jdk_52_method_91_code 2 none [] { frames := 2, cells := 0, slots := 0, locals := 27 } #[(.int (1 : Int32)), (.ref a)] h0 (fun v h => v = none ∧ h0 = h) := by
  refine Does.start (plainFor_of_name pn_5) ?_
  obtain ⟨S_zc, hzc, S_fm, hfm⟩ := id hS
  intro p e s m below meth c T X
  replace X : Sd Z n0 0 jdk_52_method_91_code 2 "java/lang/StringUTF16" "checkIndex" none h0 p l e { frames := 2, cells := 0, slots := 0, locals := 27 } s m #[(.int (1 : Int32)), (.ref a)] below meth c T [] 0 0 := X
  refine Wp.cast (g' := mkF m 0 #[.val (.int (1 : Int32)), .val (.ref a)] []) (by first | (simp [entryFrame, mkF, argsToLocals, Value.category, maxLocals]; done) | rfl) ?_
  refine w_iloadN X djdk_52_91_0 rfl ?_
  refine w_aloadN X djdk_52_91_1 rfl (rfl) ?_
  refine w_callS X djdk_52_91_2 (wd_126 hw) (wd_127 hw) (wd_22 hw) (wd_128 hw) (by decide) (argsL := [(.ref a)]) (S := [(.int (1 : Int32))]) (m_ulen_3 hw Aa) pd_16 rfl rfl rfl (by decide) (Nat.le_of_ble_eq_true rfl) (by decide) (by decide) (fun T h1 v1 L1 X q1 => ?_)
  obtain ⟨rfl, rfl⟩ := q1
  show Wp p e below _ (T.setTop (mkF m 5 #[.val (.int (1 : Int32)), .val (.ref a)] [(.int (3 : Int32)), (.int (1 : Int32))]))
  refine w_callS X djdk_52_91_5 (wd_129 hw) (wd_82 hw) (wd_7 hw) (wd_83 hw) (by decide) (argsL := [(.int (1 : Int32)), (.int (3 : Int32))]) (S := []) (m_sci hw hS (by decide) (by decide)) pd_15 rfl rfl rfl (by decide) (Nat.le_of_ble_eq_true rfl) (by decide) (by decide) (fun T h2 v2 L2 X q2 => ?_)
  obtain ⟨rfl, rfl⟩ := q2
  show Wp p e below _ (T.setTop (mkF m 8 #[.val (.int (1 : Int32)), .val (.ref a)] []))
  exact w_retV X djdk_52_91_8 ⟨rfl, rfl⟩ (by decide) (by decide)
set_option maxRecDepth 65536 in
set_option maxHeartbeats 40000000 in
theorem m_uca_3_1 {l : Launch} {Z : State} {a0 : Array Value} {n0 : Nat} (hw : ∀ d ∈ tables_1, d.before a0 Z = true) {h0 : Heap} {zc : Int32} {fm : Value} {a : Addr} {c0 c1 c2 : Int32} (hU : own_U Z zc fm) (Aa : Ary Z h0 a .byte [(.int ((c0 >>> ((0 : Int32) &&& 31)).toInt8.toInt32)), (.int ((c0 >>> ((8 : Int32) &&& 31)).toInt8.toInt32)), (.int ((c1 >>> ((0 : Int32) &&& 31)).toInt8.toInt32)), (.int ((c1 >>> ((8 : Int32) &&& 31)).toInt8.toInt32)), (.int ((c2 >>> ((0 : Int32) &&& 31)).toInt8.toInt32)), (.int ((c2 >>> ((8 : Int32) &&& 31)).toInt8.toInt32))]) (nk : nar .char c1 = c1) :
    Does l Z n0 ⟨"java/lang/StringUTF16", "charAt", "([BI)C"⟩ jdk_52_method_83_code 2 (some .char) [] { frames := 3, cells := 0, slots := 0, locals := 40 } #[(.ref a), (.int (1 : Int32))] h0 (fun v h => v = some (.int c1) ∧ h0 = h) := by
  refine Does.start (plainFor_of_name pn_5) ?_
  obtain ⟨hS, S_ad, S_hi, S_lo⟩ := id hU
  obtain ⟨S_zc, hzc, S_fm, hfm⟩ := id hS
  intro p e s m below meth c T X
  replace X : Sd Z n0 0 jdk_52_method_83_code 2 "java/lang/StringUTF16" "charAt" (some .char) h0 p l e { frames := 3, cells := 0, slots := 0, locals := 40 } s m #[(.ref a), (.int (1 : Int32))] below meth c T [] 0 0 := X
  refine Wp.cast (g' := mkF m 0 #[.val (.ref a), .val (.int (1 : Int32))] []) (by first | (simp [entryFrame, mkF, argsToLocals, Value.category, maxLocals]; done) | rfl) ?_
  refine w_iloadN X djdk_52_83_0 rfl ?_
  refine w_aloadN X djdk_52_83_1 rfl (rfl) ?_
  refine w_callS X djdk_52_83_2 (wd_123 hw) (wd_124 hw) (wd_22 hw) (wd_125 hw) (by decide) (argsL := [(.int (1 : Int32)), (.ref a)]) (S := []) (m_uci_3_1 hw hS Aa) pd_17 rfl rfl rfl (by decide) (Nat.le_of_ble_eq_true rfl) (by decide) (by decide) (fun T h1 v1 L1 X q1 => ?_)
  obtain ⟨rfl, rfl⟩ := q1
  show Wp p e below _ (T.setTop (mkF m 5 #[.val (.ref a), .val (.int (1 : Int32))] []))
  refine w_aloadN X djdk_52_83_5 rfl (rfl) ?_
  refine w_iloadN X djdk_52_83_6 rfl ?_
  refine w_callS X djdk_52_83_7 (wd_117 hw) (wd_118 hw) (wd_22 hw) (wd_119 hw) (by decide) (argsL := [(.ref a), (.int (1 : Int32))]) (S := []) (m_getc_3_1 hw (r := c1) hU Aa (own_utf nk)) pd_11 rfl rfl rfl (by decide) (Nat.le_of_ble_eq_true rfl) (by decide) (by decide) (fun T h2 v2 L2 X q2 => ?_)
  obtain ⟨rfl, rfl⟩ := q2
  show Wp p e below _ (T.setTop (mkF m 10 #[.val (.ref a), .val (.int (1 : Int32))] [(.int c1)]))
  exact w_ret_char X c1 nk djdk_52_83_10 ⟨rfl, rfl⟩ (by decide) (by decide)
set_option maxRecDepth 65536 in
set_option maxHeartbeats 40000000 in
theorem m_tca_3_1 {l : Launch} {Z : State} {a0 : Array Value} {n0 : Nat} (hw : ∀ d ∈ tables_1, d.before a0 Z = true) {h0 : Heap} {zc : Int32} {fm : Value} {a t : Addr} {c0 c1 c2 : Int32} (hU : own_U Z zc fm) (Tx : Txt Z h0 a t [c0, c1, c2]) (nk : nar .char c1 = c1) :
    Does l Z n0 ⟨"java/lang/String", "charAt", "(I)C"⟩ jdk_42_method_56_code 2 (some .char) [] { frames := 4, cells := 0, slots := 0, locals := 53 } #[(.ref a), (.int (1 : Int32))] h0 (fun v h => v = some (.int c1) ∧ h0 = h) := by
  refine Does.start (plainFor_of_name pn_4) ?_
  obtain ⟨hS, S_ad, S_hi, S_lo⟩ := id hU
  obtain ⟨S_zc, hzc, S_fm, hfm⟩ := id hS
  intro p e s m below meth c T X
  replace X : Sd Z n0 0 jdk_42_method_56_code 2 "java/lang/String" "charAt" (some .char) h0 p l e { frames := 4, cells := 0, slots := 0, locals := 53 } s m #[(.ref a), (.int (1 : Int32))] below meth c T [] 0 0 := X
  refine Wp.cast (g' := mkF m 0 #[.val (.ref a), .val (.int (1 : Int32))] []) (by first | (simp [entryFrame, mkF, argsToLocals, Value.category, maxLocals]; done) | rfl) ?_
  obtain ⟨Ea, Va, hT⟩ := Tx
  rcases hT with ⟨Ca, At, hl⟩ | ⟨Ca, At⟩
  · replace At : Ary Z h0 t .byte [(.int (c0.toInt8.toInt32)), (.int (c1.toInt8.toInt32)), (.int (c2.toInt8.toInt32))] := At
    refine w_aloadN X djdk_42_56_0 rfl (rfl) ?_
    refine w_callV X djdk_42_56_1 (wd_72 hw) (wd_73 hw) (notFace_of_selects (args := #[]) (mvT X.hZ (wd_75 hw))) (wd_75 hw) (wd_74 hw) (wd_7 hw) (wd_76 hw) (by decide) Ea (argsL := []) (S := []) (m_isl hw hS Ca) pd_18 rfl rfl rfl (by decide) (Nat.le_of_ble_eq_true rfl) (by decide) (by decide) (fun T h1 v1 L1 X q1 => ?_)
    obtain ⟨rfl, rfl⟩ := q1
    show Wp p e below _ (T.setTop (mkF m 4 #[.val (.ref a), .val (.int (1 : Int32))] [(.int (1 : Int32))]))
    refine w_ifeq X djdk_42_56_4 (fun hc => absurd hc (by decide)) (fun _ => ?_)
    refine w_aloadN X djdk_42_56_7 rfl (rfl) ?_
    refine w_getF X djdk_42_56_8 (host := "") (Or.inl (wd_33 hw)) Via.refl Va (fun T X => ?_)
    refine w_iloadN X djdk_42_56_11 rfl ?_
    refine w_callS X djdk_42_56_12 (wd_77 hw) (wd_78 hw) (wd_79 hw) (wd_80 hw) (by decide) (argsL := [(.ref t), (.int (1 : Int32))]) (S := []) (m_lca_3_1 hw hS At) pd_11 rfl rfl rfl (by decide) (Nat.le_of_ble_eq_true rfl) (by decide) (by decide) (fun T h2 v2 L2 X q2 => ?_)
    obtain ⟨rfl, rfl⟩ := q2
    show Wp p e below _ (T.setTop (mkF m 15 #[.val (.ref a), .val (.int (1 : Int32))] [(.int (((c1.toInt8.toInt32) &&& (255 : Int32)).toUInt32.toUInt16.toUInt32.toInt32))]))
    exact w_ret_char X (((c1.toInt8.toInt32) &&& (255 : Int32)).toUInt32.toUInt16.toUInt32.toInt32) (own_nar_c _) djdk_42_56_15 ⟨by rw [own_lat nk (hl c1 (List.mem_of_getElem? (i := 1) rfl))], rfl⟩ (by decide) (by decide)
  · replace At : Ary Z h0 t .byte [(.int ((c0 >>> ((0 : Int32) &&& 31)).toInt8.toInt32)), (.int ((c0 >>> ((8 : Int32) &&& 31)).toInt8.toInt32)), (.int ((c1 >>> ((0 : Int32) &&& 31)).toInt8.toInt32)), (.int ((c1 >>> ((8 : Int32) &&& 31)).toInt8.toInt32)), (.int ((c2 >>> ((0 : Int32) &&& 31)).toInt8.toInt32)), (.int ((c2 >>> ((8 : Int32) &&& 31)).toInt8.toInt32))] := At
    refine w_aloadN X djdk_42_56_0 rfl (rfl) ?_
    refine w_callV X djdk_42_56_1 (wd_72 hw) (wd_73 hw) (notFace_of_selects (args := #[]) (mvT X.hZ (wd_75 hw))) (wd_75 hw) (wd_74 hw) (wd_7 hw) (wd_76 hw) (by decide) Ea (argsL := []) (S := []) (m_isl1 hw hS Ca) pd_18 rfl rfl rfl (by decide) (Nat.le_of_ble_eq_true rfl) (by decide) (by decide) (fun T h3 v3 L3 X q3 => ?_)
    obtain ⟨rfl, rfl⟩ := q3
    show Wp p e below _ (T.setTop (mkF m 4 #[.val (.ref a), .val (.int (1 : Int32))] [(.int (0 : Int32))]))
    refine w_ifeq X djdk_42_56_4 (fun _ => ?_) (fun hc => absurd rfl hc)
    refine w_aloadN X djdk_42_56_16 rfl (rfl) ?_
    refine w_getF X djdk_42_56_17 (host := "") (Or.inl (wd_33 hw)) Via.refl Va (fun T X => ?_)
    refine w_iloadN X djdk_42_56_20 rfl ?_
    refine w_callS X djdk_42_56_21 (wd_120 hw) (wd_121 hw) (wd_22 hw) (wd_122 hw) (by decide) (argsL := [(.ref t), (.int (1 : Int32))]) (S := []) (m_uca_3_1 hw hU At nk) pd_11 rfl rfl rfl (by decide) (Nat.le_of_ble_eq_true rfl) (by decide) (by decide) (fun T h4 v4 L4 X q4 => ?_)
    obtain ⟨rfl, rfl⟩ := q4
    show Wp p e below _ (T.setTop (mkF m 24 #[.val (.ref a), .val (.int (1 : Int32))] [(.int c1)]))
    exact w_ret_char X c1 nk djdk_42_56_24 ⟨rfl, rfl⟩ (by decide) (by decide)
set_option maxRecDepth 65536 in
set_option maxHeartbeats 40000000 in
theorem m_cu_2_3 {l : Launch} {Z : State} {a0 : Array Value} {n0 : Nat} (hw : ∀ d ∈ tables_1, d.before a0 Z = true) {h0 : Heap} {zc : Int32} {fm : Value} {p1 p2 t1 t2 : Addr} {a0 a1 b0 b1 b2 : Int32} (hU : own_U Z zc fm) (Ta : Txt Z h0 p1 t1 [a0, a1]) (Tb : Txt Z h0 p2 t2 [b0, b1, b2]) (ha0 : nar .char a0 = a0) (ha1 : nar .char a1 = a1) (hb0 : nar .char b0 = b0) (hb1 : nar .char b1 = b1) (hb2 : nar .char b2 = b2) :
    Does l Z n0 ⟨"com/example/whole_session/wholesession/Run", "compareUtf8", "(Ljava/lang/String;Ljava/lang/String;)I"⟩ prog_41_method_13_code 6 (some .int) [] { frames := 5, cells := 0, slots := 0, locals := 66 } #[(.ref p1), (.ref p2)] h0 (fun v h => v = some (.int (own_cu [a0, a1] [b0, b1, b2] (2 : Int32) (3 : Int32))) ∧ h0 = h) := by
  refine Does.start (plainFor_of_name pn_3) ?_
  obtain ⟨hS, S_ad, S_hi, S_lo⟩ := id hU
  obtain ⟨S_zc, hzc, S_fm, hfm⟩ := id hS
  intro p e s m below meth c T X
  replace X : Sd Z n0 0 prog_41_method_13_code 6 "com/example/whole_session/wholesession/Run" "compareUtf8" (some .int) h0 p l e { frames := 5, cells := 0, slots := 0, locals := 66 } s m #[(.ref p1), (.ref p2)] below meth c T [] 0 0 := X
  refine Wp.cast (g' := mkF m 0 #[.val (.ref p1), .val (.ref p2), .unset, .unset, .unset, .unset] []) (by first | (simp [entryFrame, mkF, argsToLocals, Value.category, maxLocals]; done) | rfl) ?_
  refine w_aloadN X dprog_41_13_0 rfl (rfl) ?_
  refine w_callV X dprog_41_13_1 (wd_42 hw) (wd_43 hw) (notFace_of_selects (args := #[]) (mvT X.hZ (wd_45 hw))) (wd_45 hw) (wd_44 hw) (wd_7 hw) (wd_46 hw) (by decide) Ta.1 (argsL := []) (S := []) (m_tlen_2 hw hS Ta) pd_13 rfl rfl rfl (by decide) (Nat.le_of_ble_eq_true rfl) (by decide) (by decide) (fun T h1 v1 L1 X q1 => ?_)
  obtain ⟨rfl, rfl⟩ := q1
  show Wp p e below _ (T.setTop (mkF m 4 #[.val (.ref p1), .val (.ref p2), .unset, .unset, .unset, .unset] [(.int (2 : Int32))]))
  refine w_aloadN X dprog_41_13_4 rfl (rfl) ?_
  refine w_callV X dprog_41_13_5 (wd_42 hw) (wd_43 hw) (notFace_of_selects (args := #[]) (mvT X.hZ (wd_45 hw))) (wd_45 hw) (wd_44 hw) (wd_7 hw) (wd_46 hw) (by decide) Tb.1 (argsL := []) (S := [(.int (2 : Int32))]) (m_tlen_3 hw hS Tb) pd_13 rfl rfl rfl (by decide) (Nat.le_of_ble_eq_true rfl) (by decide) (by decide) (fun T h2 v2 L2 X q2 => ?_)
  obtain ⟨rfl, rfl⟩ := q2
  show Wp p e below _ (T.setTop (mkF m 8 #[.val (.ref p1), .val (.ref p2), .unset, .unset, .unset, .unset] [(.int (3 : Int32)), (.int (2 : Int32))]))
  refine w_callS X dprog_41_13_8 (wd_52 hw) (wd_53 hw) (wd_54 hw) (wd_55 hw) (by decide) (argsL := [(.int (2 : Int32)), (.int (3 : Int32))]) (S := []) (m_min hw (r := (2 : Int32)) (by decide)) pd_1 rfl rfl rfl (by decide) (Nat.le_of_ble_eq_true rfl) (by decide) (by decide) (fun T h3 v3 L3 X q3 => ?_)
  obtain ⟨rfl, rfl⟩ := q3
  show Wp p e below _ (T.setTop (mkF m 11 #[.val (.ref p1), .val (.ref p2), .unset, .unset, .unset, .unset] [(.int (2 : Int32))]))
  refine w_istoreN X #[.val (.ref p1), .val (.ref p2), .val (.int (2 : Int32)), .unset, .unset, .unset] dprog_41_13_11 rfl ?_
  refine w_iconst X (0 : Int32) dprog_41_13_12 rfl ?_
  refine w_istoreN X #[.val (.ref p1), .val (.ref p2), .val (.int (2 : Int32)), .val (.int (0 : Int32)), .unset, .unset] dprog_41_13_13 rfl ?_
  refine w_iloadN X dprog_41_13_14 rfl ?_
  refine w_iloadN X dprog_41_13_15 rfl ?_
  refine w_icmpge X dprog_41_13_16 (fun hc => absurd (by decide) hc) (fun _ => ?_)
  refine w_aloadN X dprog_41_13_19 rfl (rfl) ?_
  refine w_iloadN X dprog_41_13_20 rfl ?_
  refine w_callV X dprog_41_13_21 (wd_67 hw) (wd_68 hw) (notFace_of_selects (args := #[]) (mvT X.hZ (wd_70 hw))) (wd_70 hw) (wd_69 hw) (wd_7 hw) (wd_71 hw) (by decide) Ta.1 (argsL := [(.int (0 : Int32))]) (S := []) (m_tca_2_0 hw hU Ta ha0) pd_19 rfl rfl rfl (by decide) (Nat.le_of_ble_eq_true rfl) (by decide) (by decide) (fun T h4 v4 L4 X q4 => ?_)
  obtain ⟨rfl, rfl⟩ := q4
  show Wp p e below _ (T.setTop (mkF m 24 #[.val (.ref p1), .val (.ref p2), .val (.int (2 : Int32)), .val (.int (0 : Int32)), .unset, .unset] [(.int a0)]))
  refine w_istore X #[.val (.ref p1), .val (.ref p2), .val (.int (2 : Int32)), .val (.int (0 : Int32)), .val (.int a0), .unset] dprog_41_13_24 rfl ?_
  refine w_aloadN X dprog_41_13_26 rfl (rfl) ?_
  refine w_iloadN X dprog_41_13_27 rfl ?_
  refine w_callV X dprog_41_13_28 (wd_67 hw) (wd_68 hw) (notFace_of_selects (args := #[]) (mvT X.hZ (wd_70 hw))) (wd_70 hw) (wd_69 hw) (wd_7 hw) (wd_71 hw) (by decide) Tb.1 (argsL := [(.int (0 : Int32))]) (S := []) (m_tca_3_0 hw hU Tb hb0) pd_19 rfl rfl rfl (by decide) (Nat.le_of_ble_eq_true rfl) (by decide) (by decide) (fun T h5 v5 L5 X q5 => ?_)
  obtain ⟨rfl, rfl⟩ := q5
  show Wp p e below _ (T.setTop (mkF m 31 #[.val (.ref p1), .val (.ref p2), .val (.int (2 : Int32)), .val (.int (0 : Int32)), .val (.int a0), .unset] [(.int b0)]))
  refine w_istore X #[.val (.ref p1), .val (.ref p2), .val (.int (2 : Int32)), .val (.int (0 : Int32)), .val (.int a0), .val (.int b0)] dprog_41_13_31 rfl ?_
  refine w_iload X dprog_41_13_33 rfl ?_
  refine w_iload X dprog_41_13_35 rfl ?_
  refine w_icmpeq X dprog_41_13_37 (fun (hc37 : a0 = b0) => ?_) (fun (hc37 : ¬ a0 = b0) => ?_)
  · refine w_iinc X (1 : Int32) #[.val (.ref p1), .val (.ref p2), .val (.int (2 : Int32)), .val (.int (1 : Int32)), .val (.int a0), .val (.int b0)] dprog_41_13_54 rfl rfl rfl ?_
    refine w_goto X dprog_41_13_57 ?_
    refine w_iloadN X dprog_41_13_14 rfl ?_
    refine w_iloadN X dprog_41_13_15 rfl ?_
    refine w_icmpge X dprog_41_13_16 (fun hc => absurd (by decide) hc) (fun _ => ?_)
    refine w_aloadN X dprog_41_13_19 rfl (rfl) ?_
    refine w_iloadN X dprog_41_13_20 rfl ?_
    refine w_callV X dprog_41_13_21 (wd_67 hw) (wd_68 hw) (notFace_of_selects (args := #[]) (mvT X.hZ (wd_70 hw))) (wd_70 hw) (wd_69 hw) (wd_7 hw) (wd_71 hw) (by decide) Ta.1 (argsL := [(.int (1 : Int32))]) (S := []) (m_tca_2_1 hw hU Ta ha1) pd_19 rfl rfl rfl (by decide) (Nat.le_of_ble_eq_true rfl) (by decide) (by decide) (fun T h6 v6 L6 X q6 => ?_)
    obtain ⟨rfl, rfl⟩ := q6
    show Wp p e below _ (T.setTop (mkF m 24 #[.val (.ref p1), .val (.ref p2), .val (.int (2 : Int32)), .val (.int (1 : Int32)), .val (.int a0), .val (.int b0)] [(.int a1)]))
    refine w_istore X #[.val (.ref p1), .val (.ref p2), .val (.int (2 : Int32)), .val (.int (1 : Int32)), .val (.int a1), .val (.int b0)] dprog_41_13_24 rfl ?_
    refine w_aloadN X dprog_41_13_26 rfl (rfl) ?_
    refine w_iloadN X dprog_41_13_27 rfl ?_
    refine w_callV X dprog_41_13_28 (wd_67 hw) (wd_68 hw) (notFace_of_selects (args := #[]) (mvT X.hZ (wd_70 hw))) (wd_70 hw) (wd_69 hw) (wd_7 hw) (wd_71 hw) (by decide) Tb.1 (argsL := [(.int (1 : Int32))]) (S := []) (m_tca_3_1 hw hU Tb hb1) pd_19 rfl rfl rfl (by decide) (Nat.le_of_ble_eq_true rfl) (by decide) (by decide) (fun T h7 v7 L7 X q7 => ?_)
    obtain ⟨rfl, rfl⟩ := q7
    show Wp p e below _ (T.setTop (mkF m 31 #[.val (.ref p1), .val (.ref p2), .val (.int (2 : Int32)), .val (.int (1 : Int32)), .val (.int a1), .val (.int b0)] [(.int b1)]))
    refine w_istore X #[.val (.ref p1), .val (.ref p2), .val (.int (2 : Int32)), .val (.int (1 : Int32)), .val (.int a1), .val (.int b1)] dprog_41_13_31 rfl ?_
    refine w_iload X dprog_41_13_33 rfl ?_
    refine w_iload X dprog_41_13_35 rfl ?_
    refine w_icmpeq X dprog_41_13_37 (fun (hc37_1 : a1 = b1) => ?_) (fun (hc37_1 : ¬ a1 = b1) => ?_)
    · refine w_iinc X (1 : Int32) #[.val (.ref p1), .val (.ref p2), .val (.int (2 : Int32)), .val (.int (2 : Int32)), .val (.int a1), .val (.int b1)] dprog_41_13_54 rfl rfl rfl ?_
      refine w_goto X dprog_41_13_57 ?_
      refine w_iloadN X dprog_41_13_14 rfl ?_
      refine w_iloadN X dprog_41_13_15 rfl ?_
      refine w_icmpge X dprog_41_13_16 (fun _ => ?_) (fun hc => absurd hc Int32.lt_irrefl)
      refine w_aloadN X dprog_41_13_60 rfl (rfl) ?_
      refine w_callV X dprog_41_13_61 (wd_42 hw) (wd_43 hw) (notFace_of_selects (args := #[]) (mvT X.hZ (wd_45 hw))) (wd_45 hw) (wd_44 hw) (wd_7 hw) (wd_46 hw) (by decide) Ta.1 (argsL := []) (S := []) (m_tlen_2 hw hS Ta) pd_13 rfl rfl rfl (by decide) (Nat.le_of_ble_eq_true rfl) (by decide) (by decide) (fun T h8 v8 L8 X q8 => ?_)
      obtain ⟨rfl, rfl⟩ := q8
      show Wp p e below _ (T.setTop (mkF m 64 #[.val (.ref p1), .val (.ref p2), .val (.int (2 : Int32)), .val (.int (2 : Int32)), .val (.int a1), .val (.int b1)] [(.int (2 : Int32))]))
      refine w_aloadN X dprog_41_13_64 rfl (rfl) ?_
      refine w_callV X dprog_41_13_65 (wd_42 hw) (wd_43 hw) (notFace_of_selects (args := #[]) (mvT X.hZ (wd_45 hw))) (wd_45 hw) (wd_44 hw) (wd_7 hw) (wd_46 hw) (by decide) Tb.1 (argsL := []) (S := [(.int (2 : Int32))]) (m_tlen_3 hw hS Tb) pd_13 rfl rfl rfl (by decide) (Nat.le_of_ble_eq_true rfl) (by decide) (by decide) (fun T h9 v9 L9 X q9 => ?_)
      obtain ⟨rfl, rfl⟩ := q9
      show Wp p e below _ (T.setTop (mkF m 68 #[.val (.ref p1), .val (.ref p2), .val (.int (2 : Int32)), .val (.int (2 : Int32)), .val (.int a1), .val (.int b1)] [(.int (3 : Int32)), (.int (2 : Int32))]))
      refine w_callS X dprog_41_13_68 (wd_56 hw) (wd_57 hw) (wd_58 hw) (wd_59 hw) (by decide) (argsL := [(.int (2 : Int32)), (.int (3 : Int32))]) (S := []) (m_ic hw (x0 := (2 : Int32)) (y0 := (3 : Int32))) pd_1 rfl rfl rfl (by decide) (Nat.le_of_ble_eq_true rfl) (by decide) (by decide) (fun T h10 v10 L10 X q10 => ?_)
      obtain ⟨rfl, rfl⟩ := q10
      show Wp p e below _ (T.setTop (mkF m 71 #[.val (.ref p1), .val (.ref p2), .val (.int (2 : Int32)), .val (.int (2 : Int32)), .val (.int a1), .val (.int b1)] [(.int (own_icmp (2 : Int32) (3 : Int32)))]))
      exact w_retI X dprog_41_13_71 ⟨by simp only [own_cu, *, if_true, if_false], rfl⟩ (by decide) (by decide)
    · refine w_iload X dprog_41_13_40 rfl ?_
      refine w_callS X dprog_41_13_42 (wd_89 hw) (wd_90 hw) (wd_40 hw) (wd_91 hw) (by decide) (argsL := [(.int a1)]) (S := []) (m_cpo hw (x0 := a1)) pd_2 rfl rfl rfl (by decide) (Nat.le_of_ble_eq_true rfl) (by decide) (by decide) (fun T h11 v11 L11 X q11 => ?_)
      obtain ⟨rfl, rfl⟩ := q11
      show Wp p e below _ (T.setTop (mkF m 45 #[.val (.ref p1), .val (.ref p2), .val (.int (2 : Int32)), .val (.int (1 : Int32)), .val (.int a1), .val (.int b1)] [(.int (own_cpo a1))]))
      refine w_iload X dprog_41_13_45 rfl ?_
      refine w_callS X dprog_41_13_47 (wd_89 hw) (wd_90 hw) (wd_40 hw) (wd_91 hw) (by decide) (argsL := [(.int b1)]) (S := [(.int (own_cpo a1))]) (m_cpo hw (x0 := b1)) pd_2 rfl rfl rfl (by decide) (Nat.le_of_ble_eq_true rfl) (by decide) (by decide) (fun T h12 v12 L12 X q12 => ?_)
      obtain ⟨rfl, rfl⟩ := q12
      show Wp p e below _ (T.setTop (mkF m 50 #[.val (.ref p1), .val (.ref p2), .val (.int (2 : Int32)), .val (.int (1 : Int32)), .val (.int a1), .val (.int b1)] [(.int (own_cpo b1)), (.int (own_cpo a1))]))
      refine w_callS X dprog_41_13_50 (wd_56 hw) (wd_57 hw) (wd_58 hw) (wd_59 hw) (by decide) (argsL := [(.int (own_cpo a1)), (.int (own_cpo b1))]) (S := []) (m_ic hw (x0 := (own_cpo a1)) (y0 := (own_cpo b1))) pd_1 rfl rfl rfl (by decide) (Nat.le_of_ble_eq_true rfl) (by decide) (by decide) (fun T h13 v13 L13 X q13 => ?_)
      obtain ⟨rfl, rfl⟩ := q13
      show Wp p e below _ (T.setTop (mkF m 53 #[.val (.ref p1), .val (.ref p2), .val (.int (2 : Int32)), .val (.int (1 : Int32)), .val (.int a1), .val (.int b1)] [(.int (own_icmp (own_cpo a1) (own_cpo b1)))]))
      exact w_retI X dprog_41_13_53 ⟨by simp only [own_cu, *, if_true, if_false], rfl⟩ (by decide) (by decide)
  · refine w_iload X dprog_41_13_40 rfl ?_
    refine w_callS X dprog_41_13_42 (wd_89 hw) (wd_90 hw) (wd_40 hw) (wd_91 hw) (by decide) (argsL := [(.int a0)]) (S := []) (m_cpo hw (x0 := a0)) pd_2 rfl rfl rfl (by decide) (Nat.le_of_ble_eq_true rfl) (by decide) (by decide) (fun T h14 v14 L14 X q14 => ?_)
    obtain ⟨rfl, rfl⟩ := q14
    show Wp p e below _ (T.setTop (mkF m 45 #[.val (.ref p1), .val (.ref p2), .val (.int (2 : Int32)), .val (.int (0 : Int32)), .val (.int a0), .val (.int b0)] [(.int (own_cpo a0))]))
    refine w_iload X dprog_41_13_45 rfl ?_
    refine w_callS X dprog_41_13_47 (wd_89 hw) (wd_90 hw) (wd_40 hw) (wd_91 hw) (by decide) (argsL := [(.int b0)]) (S := [(.int (own_cpo a0))]) (m_cpo hw (x0 := b0)) pd_2 rfl rfl rfl (by decide) (Nat.le_of_ble_eq_true rfl) (by decide) (by decide) (fun T h15 v15 L15 X q15 => ?_)
    obtain ⟨rfl, rfl⟩ := q15
    show Wp p e below _ (T.setTop (mkF m 50 #[.val (.ref p1), .val (.ref p2), .val (.int (2 : Int32)), .val (.int (0 : Int32)), .val (.int a0), .val (.int b0)] [(.int (own_cpo b0)), (.int (own_cpo a0))]))
    refine w_callS X dprog_41_13_50 (wd_56 hw) (wd_57 hw) (wd_58 hw) (wd_59 hw) (by decide) (argsL := [(.int (own_cpo a0)), (.int (own_cpo b0))]) (S := []) (m_ic hw (x0 := (own_cpo a0)) (y0 := (own_cpo b0))) pd_1 rfl rfl rfl (by decide) (Nat.le_of_ble_eq_true rfl) (by decide) (by decide) (fun T h16 v16 L16 X q16 => ?_)
    obtain ⟨rfl, rfl⟩ := q16
    show Wp p e below _ (T.setTop (mkF m 53 #[.val (.ref p1), .val (.ref p2), .val (.int (2 : Int32)), .val (.int (0 : Int32)), .val (.int a0), .val (.int b0)] [(.int (own_icmp (own_cpo a0) (own_cpo b0)))]))
    exact w_retI X dprog_41_13_53 ⟨by simp only [own_cu, *, if_true, if_false], rfl⟩ (by decide) (by decide)
set_option maxRecDepth 65536 in
set_option maxHeartbeats 40000000 in
theorem m_cu_3_0 {l : Launch} {Z : State} {a0 : Array Value} {n0 : Nat} (hw : ∀ d ∈ tables_1, d.before a0 Z = true) {h0 : Heap} {zc : Int32} {fm : Value} {p1 p2 t1 t2 : Addr} {a0 a1 a2 : Int32} (hU : own_U Z zc fm) (Ta : Txt Z h0 p1 t1 [a0, a1, a2]) (Tb : Txt Z h0 p2 t2 []) (ha0 : nar .char a0 = a0) (ha1 : nar .char a1 = a1) (ha2 : nar .char a2 = a2) :
    Does l Z n0 ⟨"com/example/whole_session/wholesession/Run", "compareUtf8", "(Ljava/lang/String;Ljava/lang/String;)I"⟩ prog_41_method_13_code 6 (some .int) [] { frames := 2, cells := 0, slots := 0, locals := 26 } #[(.ref p1), (.ref p2)] h0 (fun v h => v = some (.int (own_cu [a0, a1, a2] [] (3 : Int32) (0 : Int32))) ∧ h0 = h) := by
  refine Does.start (plainFor_of_name pn_3) ?_
  obtain ⟨hS, S_ad, S_hi, S_lo⟩ := id hU
  obtain ⟨S_zc, hzc, S_fm, hfm⟩ := id hS
  intro p e s m below meth c T X
  replace X : Sd Z n0 0 prog_41_method_13_code 6 "com/example/whole_session/wholesession/Run" "compareUtf8" (some .int) h0 p l e { frames := 2, cells := 0, slots := 0, locals := 26 } s m #[(.ref p1), (.ref p2)] below meth c T [] 0 0 := X
  refine Wp.cast (g' := mkF m 0 #[.val (.ref p1), .val (.ref p2), .unset, .unset, .unset, .unset] []) (by first | (simp [entryFrame, mkF, argsToLocals, Value.category, maxLocals]; done) | rfl) ?_
  refine w_aloadN X dprog_41_13_0 rfl (rfl) ?_
  refine w_callV X dprog_41_13_1 (wd_42 hw) (wd_43 hw) (notFace_of_selects (args := #[]) (mvT X.hZ (wd_45 hw))) (wd_45 hw) (wd_44 hw) (wd_7 hw) (wd_46 hw) (by decide) Ta.1 (argsL := []) (S := []) (m_tlen_3 hw hS Ta) pd_13 rfl rfl rfl (by decide) (Nat.le_of_ble_eq_true rfl) (by decide) (by decide) (fun T h1 v1 L1 X q1 => ?_)
  obtain ⟨rfl, rfl⟩ := q1
  show Wp p e below _ (T.setTop (mkF m 4 #[.val (.ref p1), .val (.ref p2), .unset, .unset, .unset, .unset] [(.int (3 : Int32))]))
  refine w_aloadN X dprog_41_13_4 rfl (rfl) ?_
  refine w_callV X dprog_41_13_5 (wd_42 hw) (wd_43 hw) (notFace_of_selects (args := #[]) (mvT X.hZ (wd_45 hw))) (wd_45 hw) (wd_44 hw) (wd_7 hw) (wd_46 hw) (by decide) Tb.1 (argsL := []) (S := [(.int (3 : Int32))]) (m_tlen_0 hw hS Tb) pd_13 rfl rfl rfl (by decide) (Nat.le_of_ble_eq_true rfl) (by decide) (by decide) (fun T h2 v2 L2 X q2 => ?_)
  obtain ⟨rfl, rfl⟩ := q2
  show Wp p e below _ (T.setTop (mkF m 8 #[.val (.ref p1), .val (.ref p2), .unset, .unset, .unset, .unset] [(.int (0 : Int32)), (.int (3 : Int32))]))
  refine w_callS X dprog_41_13_8 (wd_52 hw) (wd_53 hw) (wd_54 hw) (wd_55 hw) (by decide) (argsL := [(.int (3 : Int32)), (.int (0 : Int32))]) (S := []) (m_min hw (r := (0 : Int32)) (by decide)) pd_1 rfl rfl rfl (by decide) (Nat.le_of_ble_eq_true rfl) (by decide) (by decide) (fun T h3 v3 L3 X q3 => ?_)
  obtain ⟨rfl, rfl⟩ := q3
  show Wp p e below _ (T.setTop (mkF m 11 #[.val (.ref p1), .val (.ref p2), .unset, .unset, .unset, .unset] [(.int (0 : Int32))]))
  refine w_istoreN X #[.val (.ref p1), .val (.ref p2), .val (.int (0 : Int32)), .unset, .unset, .unset] dprog_41_13_11 rfl ?_
  refine w_iconst X (0 : Int32) dprog_41_13_12 rfl ?_
  refine w_istoreN X #[.val (.ref p1), .val (.ref p2), .val (.int (0 : Int32)), .val (.int (0 : Int32)), .unset, .unset] dprog_41_13_13 rfl ?_
  refine w_iloadN X dprog_41_13_14 rfl ?_
  refine w_iloadN X dprog_41_13_15 rfl ?_
  refine w_icmpge X dprog_41_13_16 (fun _ => ?_) (fun hc => absurd hc Int32.lt_irrefl)
  refine w_aloadN X dprog_41_13_60 rfl (rfl) ?_
  refine w_callV X dprog_41_13_61 (wd_42 hw) (wd_43 hw) (notFace_of_selects (args := #[]) (mvT X.hZ (wd_45 hw))) (wd_45 hw) (wd_44 hw) (wd_7 hw) (wd_46 hw) (by decide) Ta.1 (argsL := []) (S := []) (m_tlen_3 hw hS Ta) pd_13 rfl rfl rfl (by decide) (Nat.le_of_ble_eq_true rfl) (by decide) (by decide) (fun T h4 v4 L4 X q4 => ?_)
  obtain ⟨rfl, rfl⟩ := q4
  show Wp p e below _ (T.setTop (mkF m 64 #[.val (.ref p1), .val (.ref p2), .val (.int (0 : Int32)), .val (.int (0 : Int32)), .unset, .unset] [(.int (3 : Int32))]))
  refine w_aloadN X dprog_41_13_64 rfl (rfl) ?_
  refine w_callV X dprog_41_13_65 (wd_42 hw) (wd_43 hw) (notFace_of_selects (args := #[]) (mvT X.hZ (wd_45 hw))) (wd_45 hw) (wd_44 hw) (wd_7 hw) (wd_46 hw) (by decide) Tb.1 (argsL := []) (S := [(.int (3 : Int32))]) (m_tlen_0 hw hS Tb) pd_13 rfl rfl rfl (by decide) (Nat.le_of_ble_eq_true rfl) (by decide) (by decide) (fun T h5 v5 L5 X q5 => ?_)
  obtain ⟨rfl, rfl⟩ := q5
  show Wp p e below _ (T.setTop (mkF m 68 #[.val (.ref p1), .val (.ref p2), .val (.int (0 : Int32)), .val (.int (0 : Int32)), .unset, .unset] [(.int (0 : Int32)), (.int (3 : Int32))]))
  refine w_callS X dprog_41_13_68 (wd_56 hw) (wd_57 hw) (wd_58 hw) (wd_59 hw) (by decide) (argsL := [(.int (3 : Int32)), (.int (0 : Int32))]) (S := []) (m_ic hw (x0 := (3 : Int32)) (y0 := (0 : Int32))) pd_1 rfl rfl rfl (by decide) (Nat.le_of_ble_eq_true rfl) (by decide) (by decide) (fun T h6 v6 L6 X q6 => ?_)
  obtain ⟨rfl, rfl⟩ := q6
  show Wp p e below _ (T.setTop (mkF m 71 #[.val (.ref p1), .val (.ref p2), .val (.int (0 : Int32)), .val (.int (0 : Int32)), .unset, .unset] [(.int (own_icmp (3 : Int32) (0 : Int32)))]))
  exact w_retI X dprog_41_13_71 ⟨by simp only [own_cu, *, if_true, if_false], rfl⟩ (by decide) (by decide)
set_option maxRecDepth 65536 in
set_option maxHeartbeats 40000000 in
theorem m_cu_3_1 {l : Launch} {Z : State} {a0 : Array Value} {n0 : Nat} (hw : ∀ d ∈ tables_1, d.before a0 Z = true) {h0 : Heap} {zc : Int32} {fm : Value} {p1 p2 t1 t2 : Addr} {a0 a1 a2 b0 : Int32} (hU : own_U Z zc fm) (Ta : Txt Z h0 p1 t1 [a0, a1, a2]) (Tb : Txt Z h0 p2 t2 [b0]) (ha0 : nar .char a0 = a0) (ha1 : nar .char a1 = a1) (ha2 : nar .char a2 = a2) (hb0 : nar .char b0 = b0) :
    Does l Z n0 ⟨"com/example/whole_session/wholesession/Run", "compareUtf8", "(Ljava/lang/String;Ljava/lang/String;)I"⟩ prog_41_method_13_code 6 (some .int) [] { frames := 5, cells := 0, slots := 0, locals := 66 } #[(.ref p1), (.ref p2)] h0 (fun v h => v = some (.int (own_cu [a0, a1, a2] [b0] (3 : Int32) (1 : Int32))) ∧ h0 = h) := by
  refine Does.start (plainFor_of_name pn_3) ?_
  obtain ⟨hS, S_ad, S_hi, S_lo⟩ := id hU
  obtain ⟨S_zc, hzc, S_fm, hfm⟩ := id hS
  intro p e s m below meth c T X
  replace X : Sd Z n0 0 prog_41_method_13_code 6 "com/example/whole_session/wholesession/Run" "compareUtf8" (some .int) h0 p l e { frames := 5, cells := 0, slots := 0, locals := 66 } s m #[(.ref p1), (.ref p2)] below meth c T [] 0 0 := X
  refine Wp.cast (g' := mkF m 0 #[.val (.ref p1), .val (.ref p2), .unset, .unset, .unset, .unset] []) (by first | (simp [entryFrame, mkF, argsToLocals, Value.category, maxLocals]; done) | rfl) ?_
  refine w_aloadN X dprog_41_13_0 rfl (rfl) ?_
  refine w_callV X dprog_41_13_1 (wd_42 hw) (wd_43 hw) (notFace_of_selects (args := #[]) (mvT X.hZ (wd_45 hw))) (wd_45 hw) (wd_44 hw) (wd_7 hw) (wd_46 hw) (by decide) Ta.1 (argsL := []) (S := []) (m_tlen_3 hw hS Ta) pd_13 rfl rfl rfl (by decide) (Nat.le_of_ble_eq_true rfl) (by decide) (by decide) (fun T h1 v1 L1 X q1 => ?_)
  obtain ⟨rfl, rfl⟩ := q1
  show Wp p e below _ (T.setTop (mkF m 4 #[.val (.ref p1), .val (.ref p2), .unset, .unset, .unset, .unset] [(.int (3 : Int32))]))
  refine w_aloadN X dprog_41_13_4 rfl (rfl) ?_
  refine w_callV X dprog_41_13_5 (wd_42 hw) (wd_43 hw) (notFace_of_selects (args := #[]) (mvT X.hZ (wd_45 hw))) (wd_45 hw) (wd_44 hw) (wd_7 hw) (wd_46 hw) (by decide) Tb.1 (argsL := []) (S := [(.int (3 : Int32))]) (m_tlen_1 hw hS Tb) pd_13 rfl rfl rfl (by decide) (Nat.le_of_ble_eq_true rfl) (by decide) (by decide) (fun T h2 v2 L2 X q2 => ?_)
  obtain ⟨rfl, rfl⟩ := q2
  show Wp p e below _ (T.setTop (mkF m 8 #[.val (.ref p1), .val (.ref p2), .unset, .unset, .unset, .unset] [(.int (1 : Int32)), (.int (3 : Int32))]))
  refine w_callS X dprog_41_13_8 (wd_52 hw) (wd_53 hw) (wd_54 hw) (wd_55 hw) (by decide) (argsL := [(.int (3 : Int32)), (.int (1 : Int32))]) (S := []) (m_min hw (r := (1 : Int32)) (by decide)) pd_1 rfl rfl rfl (by decide) (Nat.le_of_ble_eq_true rfl) (by decide) (by decide) (fun T h3 v3 L3 X q3 => ?_)
  obtain ⟨rfl, rfl⟩ := q3
  show Wp p e below _ (T.setTop (mkF m 11 #[.val (.ref p1), .val (.ref p2), .unset, .unset, .unset, .unset] [(.int (1 : Int32))]))
  refine w_istoreN X #[.val (.ref p1), .val (.ref p2), .val (.int (1 : Int32)), .unset, .unset, .unset] dprog_41_13_11 rfl ?_
  refine w_iconst X (0 : Int32) dprog_41_13_12 rfl ?_
  refine w_istoreN X #[.val (.ref p1), .val (.ref p2), .val (.int (1 : Int32)), .val (.int (0 : Int32)), .unset, .unset] dprog_41_13_13 rfl ?_
  refine w_iloadN X dprog_41_13_14 rfl ?_
  refine w_iloadN X dprog_41_13_15 rfl ?_
  refine w_icmpge X dprog_41_13_16 (fun hc => absurd (by decide) hc) (fun _ => ?_)
  refine w_aloadN X dprog_41_13_19 rfl (rfl) ?_
  refine w_iloadN X dprog_41_13_20 rfl ?_
  refine w_callV X dprog_41_13_21 (wd_67 hw) (wd_68 hw) (notFace_of_selects (args := #[]) (mvT X.hZ (wd_70 hw))) (wd_70 hw) (wd_69 hw) (wd_7 hw) (wd_71 hw) (by decide) Ta.1 (argsL := [(.int (0 : Int32))]) (S := []) (m_tca_3_0 hw hU Ta ha0) pd_19 rfl rfl rfl (by decide) (Nat.le_of_ble_eq_true rfl) (by decide) (by decide) (fun T h4 v4 L4 X q4 => ?_)
  obtain ⟨rfl, rfl⟩ := q4
  show Wp p e below _ (T.setTop (mkF m 24 #[.val (.ref p1), .val (.ref p2), .val (.int (1 : Int32)), .val (.int (0 : Int32)), .unset, .unset] [(.int a0)]))
  refine w_istore X #[.val (.ref p1), .val (.ref p2), .val (.int (1 : Int32)), .val (.int (0 : Int32)), .val (.int a0), .unset] dprog_41_13_24 rfl ?_
  refine w_aloadN X dprog_41_13_26 rfl (rfl) ?_
  refine w_iloadN X dprog_41_13_27 rfl ?_
  refine w_callV X dprog_41_13_28 (wd_67 hw) (wd_68 hw) (notFace_of_selects (args := #[]) (mvT X.hZ (wd_70 hw))) (wd_70 hw) (wd_69 hw) (wd_7 hw) (wd_71 hw) (by decide) Tb.1 (argsL := [(.int (0 : Int32))]) (S := []) (m_tca_1_0 hw hU Tb hb0) pd_19 rfl rfl rfl (by decide) (Nat.le_of_ble_eq_true rfl) (by decide) (by decide) (fun T h5 v5 L5 X q5 => ?_)
  obtain ⟨rfl, rfl⟩ := q5
  show Wp p e below _ (T.setTop (mkF m 31 #[.val (.ref p1), .val (.ref p2), .val (.int (1 : Int32)), .val (.int (0 : Int32)), .val (.int a0), .unset] [(.int b0)]))
  refine w_istore X #[.val (.ref p1), .val (.ref p2), .val (.int (1 : Int32)), .val (.int (0 : Int32)), .val (.int a0), .val (.int b0)] dprog_41_13_31 rfl ?_
  refine w_iload X dprog_41_13_33 rfl ?_
  refine w_iload X dprog_41_13_35 rfl ?_
  refine w_icmpeq X dprog_41_13_37 (fun (hc37 : a0 = b0) => ?_) (fun (hc37 : ¬ a0 = b0) => ?_)
  · refine w_iinc X (1 : Int32) #[.val (.ref p1), .val (.ref p2), .val (.int (1 : Int32)), .val (.int (1 : Int32)), .val (.int a0), .val (.int b0)] dprog_41_13_54 rfl rfl rfl ?_
    refine w_goto X dprog_41_13_57 ?_
    refine w_iloadN X dprog_41_13_14 rfl ?_
    refine w_iloadN X dprog_41_13_15 rfl ?_
    refine w_icmpge X dprog_41_13_16 (fun _ => ?_) (fun hc => absurd hc Int32.lt_irrefl)
    refine w_aloadN X dprog_41_13_60 rfl (rfl) ?_
    refine w_callV X dprog_41_13_61 (wd_42 hw) (wd_43 hw) (notFace_of_selects (args := #[]) (mvT X.hZ (wd_45 hw))) (wd_45 hw) (wd_44 hw) (wd_7 hw) (wd_46 hw) (by decide) Ta.1 (argsL := []) (S := []) (m_tlen_3 hw hS Ta) pd_13 rfl rfl rfl (by decide) (Nat.le_of_ble_eq_true rfl) (by decide) (by decide) (fun T h6 v6 L6 X q6 => ?_)
    obtain ⟨rfl, rfl⟩ := q6
    show Wp p e below _ (T.setTop (mkF m 64 #[.val (.ref p1), .val (.ref p2), .val (.int (1 : Int32)), .val (.int (1 : Int32)), .val (.int a0), .val (.int b0)] [(.int (3 : Int32))]))
    refine w_aloadN X dprog_41_13_64 rfl (rfl) ?_
    refine w_callV X dprog_41_13_65 (wd_42 hw) (wd_43 hw) (notFace_of_selects (args := #[]) (mvT X.hZ (wd_45 hw))) (wd_45 hw) (wd_44 hw) (wd_7 hw) (wd_46 hw) (by decide) Tb.1 (argsL := []) (S := [(.int (3 : Int32))]) (m_tlen_1 hw hS Tb) pd_13 rfl rfl rfl (by decide) (Nat.le_of_ble_eq_true rfl) (by decide) (by decide) (fun T h7 v7 L7 X q7 => ?_)
    obtain ⟨rfl, rfl⟩ := q7
    show Wp p e below _ (T.setTop (mkF m 68 #[.val (.ref p1), .val (.ref p2), .val (.int (1 : Int32)), .val (.int (1 : Int32)), .val (.int a0), .val (.int b0)] [(.int (1 : Int32)), (.int (3 : Int32))]))
    refine w_callS X dprog_41_13_68 (wd_56 hw) (wd_57 hw) (wd_58 hw) (wd_59 hw) (by decide) (argsL := [(.int (3 : Int32)), (.int (1 : Int32))]) (S := []) (m_ic hw (x0 := (3 : Int32)) (y0 := (1 : Int32))) pd_1 rfl rfl rfl (by decide) (Nat.le_of_ble_eq_true rfl) (by decide) (by decide) (fun T h8 v8 L8 X q8 => ?_)
    obtain ⟨rfl, rfl⟩ := q8
    show Wp p e below _ (T.setTop (mkF m 71 #[.val (.ref p1), .val (.ref p2), .val (.int (1 : Int32)), .val (.int (1 : Int32)), .val (.int a0), .val (.int b0)] [(.int (own_icmp (3 : Int32) (1 : Int32)))]))
    exact w_retI X dprog_41_13_71 ⟨by simp only [own_cu, *, if_true, if_false], rfl⟩ (by decide) (by decide)
  · refine w_iload X dprog_41_13_40 rfl ?_
    refine w_callS X dprog_41_13_42 (wd_89 hw) (wd_90 hw) (wd_40 hw) (wd_91 hw) (by decide) (argsL := [(.int a0)]) (S := []) (m_cpo hw (x0 := a0)) pd_2 rfl rfl rfl (by decide) (Nat.le_of_ble_eq_true rfl) (by decide) (by decide) (fun T h9 v9 L9 X q9 => ?_)
    obtain ⟨rfl, rfl⟩ := q9
    show Wp p e below _ (T.setTop (mkF m 45 #[.val (.ref p1), .val (.ref p2), .val (.int (1 : Int32)), .val (.int (0 : Int32)), .val (.int a0), .val (.int b0)] [(.int (own_cpo a0))]))
    refine w_iload X dprog_41_13_45 rfl ?_
    refine w_callS X dprog_41_13_47 (wd_89 hw) (wd_90 hw) (wd_40 hw) (wd_91 hw) (by decide) (argsL := [(.int b0)]) (S := [(.int (own_cpo a0))]) (m_cpo hw (x0 := b0)) pd_2 rfl rfl rfl (by decide) (Nat.le_of_ble_eq_true rfl) (by decide) (by decide) (fun T h10 v10 L10 X q10 => ?_)
    obtain ⟨rfl, rfl⟩ := q10
    show Wp p e below _ (T.setTop (mkF m 50 #[.val (.ref p1), .val (.ref p2), .val (.int (1 : Int32)), .val (.int (0 : Int32)), .val (.int a0), .val (.int b0)] [(.int (own_cpo b0)), (.int (own_cpo a0))]))
    refine w_callS X dprog_41_13_50 (wd_56 hw) (wd_57 hw) (wd_58 hw) (wd_59 hw) (by decide) (argsL := [(.int (own_cpo a0)), (.int (own_cpo b0))]) (S := []) (m_ic hw (x0 := (own_cpo a0)) (y0 := (own_cpo b0))) pd_1 rfl rfl rfl (by decide) (Nat.le_of_ble_eq_true rfl) (by decide) (by decide) (fun T h11 v11 L11 X q11 => ?_)
    obtain ⟨rfl, rfl⟩ := q11
    show Wp p e below _ (T.setTop (mkF m 53 #[.val (.ref p1), .val (.ref p2), .val (.int (1 : Int32)), .val (.int (0 : Int32)), .val (.int a0), .val (.int b0)] [(.int (own_icmp (own_cpo a0) (own_cpo b0)))]))
    exact w_retI X dprog_41_13_53 ⟨by simp only [own_cu, *, if_true, if_false], rfl⟩ (by decide) (by decide)
set_option maxRecDepth 65536 in
set_option maxHeartbeats 40000000 in
theorem m_cu_3_2 {l : Launch} {Z : State} {a0 : Array Value} {n0 : Nat} (hw : ∀ d ∈ tables_1, d.before a0 Z = true) {h0 : Heap} {zc : Int32} {fm : Value} {p1 p2 t1 t2 : Addr} {a0 a1 a2 b0 b1 : Int32} (hU : own_U Z zc fm) (Ta : Txt Z h0 p1 t1 [a0, a1, a2]) (Tb : Txt Z h0 p2 t2 [b0, b1]) (ha0 : nar .char a0 = a0) (ha1 : nar .char a1 = a1) (ha2 : nar .char a2 = a2) (hb0 : nar .char b0 = b0) (hb1 : nar .char b1 = b1) :
    Does l Z n0 ⟨"com/example/whole_session/wholesession/Run", "compareUtf8", "(Ljava/lang/String;Ljava/lang/String;)I"⟩ prog_41_method_13_code 6 (some .int) [] { frames := 5, cells := 0, slots := 0, locals := 66 } #[(.ref p1), (.ref p2)] h0 (fun v h => v = some (.int (own_cu [a0, a1, a2] [b0, b1] (3 : Int32) (2 : Int32))) ∧ h0 = h) := by
  refine Does.start (plainFor_of_name pn_3) ?_
  obtain ⟨hS, S_ad, S_hi, S_lo⟩ := id hU
  obtain ⟨S_zc, hzc, S_fm, hfm⟩ := id hS
  intro p e s m below meth c T X
  replace X : Sd Z n0 0 prog_41_method_13_code 6 "com/example/whole_session/wholesession/Run" "compareUtf8" (some .int) h0 p l e { frames := 5, cells := 0, slots := 0, locals := 66 } s m #[(.ref p1), (.ref p2)] below meth c T [] 0 0 := X
  refine Wp.cast (g' := mkF m 0 #[.val (.ref p1), .val (.ref p2), .unset, .unset, .unset, .unset] []) (by first | (simp [entryFrame, mkF, argsToLocals, Value.category, maxLocals]; done) | rfl) ?_
  refine w_aloadN X dprog_41_13_0 rfl (rfl) ?_
  refine w_callV X dprog_41_13_1 (wd_42 hw) (wd_43 hw) (notFace_of_selects (args := #[]) (mvT X.hZ (wd_45 hw))) (wd_45 hw) (wd_44 hw) (wd_7 hw) (wd_46 hw) (by decide) Ta.1 (argsL := []) (S := []) (m_tlen_3 hw hS Ta) pd_13 rfl rfl rfl (by decide) (Nat.le_of_ble_eq_true rfl) (by decide) (by decide) (fun T h1 v1 L1 X q1 => ?_)
  obtain ⟨rfl, rfl⟩ := q1
  show Wp p e below _ (T.setTop (mkF m 4 #[.val (.ref p1), .val (.ref p2), .unset, .unset, .unset, .unset] [(.int (3 : Int32))]))
  refine w_aloadN X dprog_41_13_4 rfl (rfl) ?_
  refine w_callV X dprog_41_13_5 (wd_42 hw) (wd_43 hw) (notFace_of_selects (args := #[]) (mvT X.hZ (wd_45 hw))) (wd_45 hw) (wd_44 hw) (wd_7 hw) (wd_46 hw) (by decide) Tb.1 (argsL := []) (S := [(.int (3 : Int32))]) (m_tlen_2 hw hS Tb) pd_13 rfl rfl rfl (by decide) (Nat.le_of_ble_eq_true rfl) (by decide) (by decide) (fun T h2 v2 L2 X q2 => ?_)
  obtain ⟨rfl, rfl⟩ := q2
  show Wp p e below _ (T.setTop (mkF m 8 #[.val (.ref p1), .val (.ref p2), .unset, .unset, .unset, .unset] [(.int (2 : Int32)), (.int (3 : Int32))]))
  refine w_callS X dprog_41_13_8 (wd_52 hw) (wd_53 hw) (wd_54 hw) (wd_55 hw) (by decide) (argsL := [(.int (3 : Int32)), (.int (2 : Int32))]) (S := []) (m_min hw (r := (2 : Int32)) (by decide)) pd_1 rfl rfl rfl (by decide) (Nat.le_of_ble_eq_true rfl) (by decide) (by decide) (fun T h3 v3 L3 X q3 => ?_)
  obtain ⟨rfl, rfl⟩ := q3
  show Wp p e below _ (T.setTop (mkF m 11 #[.val (.ref p1), .val (.ref p2), .unset, .unset, .unset, .unset] [(.int (2 : Int32))]))
  refine w_istoreN X #[.val (.ref p1), .val (.ref p2), .val (.int (2 : Int32)), .unset, .unset, .unset] dprog_41_13_11 rfl ?_
  refine w_iconst X (0 : Int32) dprog_41_13_12 rfl ?_
  refine w_istoreN X #[.val (.ref p1), .val (.ref p2), .val (.int (2 : Int32)), .val (.int (0 : Int32)), .unset, .unset] dprog_41_13_13 rfl ?_
  refine w_iloadN X dprog_41_13_14 rfl ?_
  refine w_iloadN X dprog_41_13_15 rfl ?_
  refine w_icmpge X dprog_41_13_16 (fun hc => absurd (by decide) hc) (fun _ => ?_)
  refine w_aloadN X dprog_41_13_19 rfl (rfl) ?_
  refine w_iloadN X dprog_41_13_20 rfl ?_
  refine w_callV X dprog_41_13_21 (wd_67 hw) (wd_68 hw) (notFace_of_selects (args := #[]) (mvT X.hZ (wd_70 hw))) (wd_70 hw) (wd_69 hw) (wd_7 hw) (wd_71 hw) (by decide) Ta.1 (argsL := [(.int (0 : Int32))]) (S := []) (m_tca_3_0 hw hU Ta ha0) pd_19 rfl rfl rfl (by decide) (Nat.le_of_ble_eq_true rfl) (by decide) (by decide) (fun T h4 v4 L4 X q4 => ?_)
  obtain ⟨rfl, rfl⟩ := q4
  show Wp p e below _ (T.setTop (mkF m 24 #[.val (.ref p1), .val (.ref p2), .val (.int (2 : Int32)), .val (.int (0 : Int32)), .unset, .unset] [(.int a0)]))
  refine w_istore X #[.val (.ref p1), .val (.ref p2), .val (.int (2 : Int32)), .val (.int (0 : Int32)), .val (.int a0), .unset] dprog_41_13_24 rfl ?_
  refine w_aloadN X dprog_41_13_26 rfl (rfl) ?_
  refine w_iloadN X dprog_41_13_27 rfl ?_
  refine w_callV X dprog_41_13_28 (wd_67 hw) (wd_68 hw) (notFace_of_selects (args := #[]) (mvT X.hZ (wd_70 hw))) (wd_70 hw) (wd_69 hw) (wd_7 hw) (wd_71 hw) (by decide) Tb.1 (argsL := [(.int (0 : Int32))]) (S := []) (m_tca_2_0 hw hU Tb hb0) pd_19 rfl rfl rfl (by decide) (Nat.le_of_ble_eq_true rfl) (by decide) (by decide) (fun T h5 v5 L5 X q5 => ?_)
  obtain ⟨rfl, rfl⟩ := q5
  show Wp p e below _ (T.setTop (mkF m 31 #[.val (.ref p1), .val (.ref p2), .val (.int (2 : Int32)), .val (.int (0 : Int32)), .val (.int a0), .unset] [(.int b0)]))
  refine w_istore X #[.val (.ref p1), .val (.ref p2), .val (.int (2 : Int32)), .val (.int (0 : Int32)), .val (.int a0), .val (.int b0)] dprog_41_13_31 rfl ?_
  refine w_iload X dprog_41_13_33 rfl ?_
  refine w_iload X dprog_41_13_35 rfl ?_
  refine w_icmpeq X dprog_41_13_37 (fun (hc37 : a0 = b0) => ?_) (fun (hc37 : ¬ a0 = b0) => ?_)
  · refine w_iinc X (1 : Int32) #[.val (.ref p1), .val (.ref p2), .val (.int (2 : Int32)), .val (.int (1 : Int32)), .val (.int a0), .val (.int b0)] dprog_41_13_54 rfl rfl rfl ?_
    refine w_goto X dprog_41_13_57 ?_
    refine w_iloadN X dprog_41_13_14 rfl ?_
    refine w_iloadN X dprog_41_13_15 rfl ?_
    refine w_icmpge X dprog_41_13_16 (fun hc => absurd (by decide) hc) (fun _ => ?_)
    refine w_aloadN X dprog_41_13_19 rfl (rfl) ?_
    refine w_iloadN X dprog_41_13_20 rfl ?_
    refine w_callV X dprog_41_13_21 (wd_67 hw) (wd_68 hw) (notFace_of_selects (args := #[]) (mvT X.hZ (wd_70 hw))) (wd_70 hw) (wd_69 hw) (wd_7 hw) (wd_71 hw) (by decide) Ta.1 (argsL := [(.int (1 : Int32))]) (S := []) (m_tca_3_1 hw hU Ta ha1) pd_19 rfl rfl rfl (by decide) (Nat.le_of_ble_eq_true rfl) (by decide) (by decide) (fun T h6 v6 L6 X q6 => ?_)
    obtain ⟨rfl, rfl⟩ := q6
    show Wp p e below _ (T.setTop (mkF m 24 #[.val (.ref p1), .val (.ref p2), .val (.int (2 : Int32)), .val (.int (1 : Int32)), .val (.int a0), .val (.int b0)] [(.int a1)]))
    refine w_istore X #[.val (.ref p1), .val (.ref p2), .val (.int (2 : Int32)), .val (.int (1 : Int32)), .val (.int a1), .val (.int b0)] dprog_41_13_24 rfl ?_
    refine w_aloadN X dprog_41_13_26 rfl (rfl) ?_
    refine w_iloadN X dprog_41_13_27 rfl ?_
    refine w_callV X dprog_41_13_28 (wd_67 hw) (wd_68 hw) (notFace_of_selects (args := #[]) (mvT X.hZ (wd_70 hw))) (wd_70 hw) (wd_69 hw) (wd_7 hw) (wd_71 hw) (by decide) Tb.1 (argsL := [(.int (1 : Int32))]) (S := []) (m_tca_2_1 hw hU Tb hb1) pd_19 rfl rfl rfl (by decide) (Nat.le_of_ble_eq_true rfl) (by decide) (by decide) (fun T h7 v7 L7 X q7 => ?_)
    obtain ⟨rfl, rfl⟩ := q7
    show Wp p e below _ (T.setTop (mkF m 31 #[.val (.ref p1), .val (.ref p2), .val (.int (2 : Int32)), .val (.int (1 : Int32)), .val (.int a1), .val (.int b0)] [(.int b1)]))
    refine w_istore X #[.val (.ref p1), .val (.ref p2), .val (.int (2 : Int32)), .val (.int (1 : Int32)), .val (.int a1), .val (.int b1)] dprog_41_13_31 rfl ?_
    refine w_iload X dprog_41_13_33 rfl ?_
    refine w_iload X dprog_41_13_35 rfl ?_
    refine w_icmpeq X dprog_41_13_37 (fun (hc37_1 : a1 = b1) => ?_) (fun (hc37_1 : ¬ a1 = b1) => ?_)
    · refine w_iinc X (1 : Int32) #[.val (.ref p1), .val (.ref p2), .val (.int (2 : Int32)), .val (.int (2 : Int32)), .val (.int a1), .val (.int b1)] dprog_41_13_54 rfl rfl rfl ?_
      refine w_goto X dprog_41_13_57 ?_
      refine w_iloadN X dprog_41_13_14 rfl ?_
      refine w_iloadN X dprog_41_13_15 rfl ?_
      refine w_icmpge X dprog_41_13_16 (fun _ => ?_) (fun hc => absurd hc Int32.lt_irrefl)
      refine w_aloadN X dprog_41_13_60 rfl (rfl) ?_
      refine w_callV X dprog_41_13_61 (wd_42 hw) (wd_43 hw) (notFace_of_selects (args := #[]) (mvT X.hZ (wd_45 hw))) (wd_45 hw) (wd_44 hw) (wd_7 hw) (wd_46 hw) (by decide) Ta.1 (argsL := []) (S := []) (m_tlen_3 hw hS Ta) pd_13 rfl rfl rfl (by decide) (Nat.le_of_ble_eq_true rfl) (by decide) (by decide) (fun T h8 v8 L8 X q8 => ?_)
      obtain ⟨rfl, rfl⟩ := q8
      show Wp p e below _ (T.setTop (mkF m 64 #[.val (.ref p1), .val (.ref p2), .val (.int (2 : Int32)), .val (.int (2 : Int32)), .val (.int a1), .val (.int b1)] [(.int (3 : Int32))]))
      refine w_aloadN X dprog_41_13_64 rfl (rfl) ?_
      refine w_callV X dprog_41_13_65 (wd_42 hw) (wd_43 hw) (notFace_of_selects (args := #[]) (mvT X.hZ (wd_45 hw))) (wd_45 hw) (wd_44 hw) (wd_7 hw) (wd_46 hw) (by decide) Tb.1 (argsL := []) (S := [(.int (3 : Int32))]) (m_tlen_2 hw hS Tb) pd_13 rfl rfl rfl (by decide) (Nat.le_of_ble_eq_true rfl) (by decide) (by decide) (fun T h9 v9 L9 X q9 => ?_)
      obtain ⟨rfl, rfl⟩ := q9
      show Wp p e below _ (T.setTop (mkF m 68 #[.val (.ref p1), .val (.ref p2), .val (.int (2 : Int32)), .val (.int (2 : Int32)), .val (.int a1), .val (.int b1)] [(.int (2 : Int32)), (.int (3 : Int32))]))
      refine w_callS X dprog_41_13_68 (wd_56 hw) (wd_57 hw) (wd_58 hw) (wd_59 hw) (by decide) (argsL := [(.int (3 : Int32)), (.int (2 : Int32))]) (S := []) (m_ic hw (x0 := (3 : Int32)) (y0 := (2 : Int32))) pd_1 rfl rfl rfl (by decide) (Nat.le_of_ble_eq_true rfl) (by decide) (by decide) (fun T h10 v10 L10 X q10 => ?_)
      obtain ⟨rfl, rfl⟩ := q10
      show Wp p e below _ (T.setTop (mkF m 71 #[.val (.ref p1), .val (.ref p2), .val (.int (2 : Int32)), .val (.int (2 : Int32)), .val (.int a1), .val (.int b1)] [(.int (own_icmp (3 : Int32) (2 : Int32)))]))
      exact w_retI X dprog_41_13_71 ⟨by simp only [own_cu, *, if_true, if_false], rfl⟩ (by decide) (by decide)
    · refine w_iload X dprog_41_13_40 rfl ?_
      refine w_callS X dprog_41_13_42 (wd_89 hw) (wd_90 hw) (wd_40 hw) (wd_91 hw) (by decide) (argsL := [(.int a1)]) (S := []) (m_cpo hw (x0 := a1)) pd_2 rfl rfl rfl (by decide) (Nat.le_of_ble_eq_true rfl) (by decide) (by decide) (fun T h11 v11 L11 X q11 => ?_)
      obtain ⟨rfl, rfl⟩ := q11
      show Wp p e below _ (T.setTop (mkF m 45 #[.val (.ref p1), .val (.ref p2), .val (.int (2 : Int32)), .val (.int (1 : Int32)), .val (.int a1), .val (.int b1)] [(.int (own_cpo a1))]))
      refine w_iload X dprog_41_13_45 rfl ?_
      refine w_callS X dprog_41_13_47 (wd_89 hw) (wd_90 hw) (wd_40 hw) (wd_91 hw) (by decide) (argsL := [(.int b1)]) (S := [(.int (own_cpo a1))]) (m_cpo hw (x0 := b1)) pd_2 rfl rfl rfl (by decide) (Nat.le_of_ble_eq_true rfl) (by decide) (by decide) (fun T h12 v12 L12 X q12 => ?_)
      obtain ⟨rfl, rfl⟩ := q12
      show Wp p e below _ (T.setTop (mkF m 50 #[.val (.ref p1), .val (.ref p2), .val (.int (2 : Int32)), .val (.int (1 : Int32)), .val (.int a1), .val (.int b1)] [(.int (own_cpo b1)), (.int (own_cpo a1))]))
      refine w_callS X dprog_41_13_50 (wd_56 hw) (wd_57 hw) (wd_58 hw) (wd_59 hw) (by decide) (argsL := [(.int (own_cpo a1)), (.int (own_cpo b1))]) (S := []) (m_ic hw (x0 := (own_cpo a1)) (y0 := (own_cpo b1))) pd_1 rfl rfl rfl (by decide) (Nat.le_of_ble_eq_true rfl) (by decide) (by decide) (fun T h13 v13 L13 X q13 => ?_)
      obtain ⟨rfl, rfl⟩ := q13
      show Wp p e below _ (T.setTop (mkF m 53 #[.val (.ref p1), .val (.ref p2), .val (.int (2 : Int32)), .val (.int (1 : Int32)), .val (.int a1), .val (.int b1)] [(.int (own_icmp (own_cpo a1) (own_cpo b1)))]))
      exact w_retI X dprog_41_13_53 ⟨by simp only [own_cu, *, if_true, if_false], rfl⟩ (by decide) (by decide)
  · refine w_iload X dprog_41_13_40 rfl ?_
    refine w_callS X dprog_41_13_42 (wd_89 hw) (wd_90 hw) (wd_40 hw) (wd_91 hw) (by decide) (argsL := [(.int a0)]) (S := []) (m_cpo hw (x0 := a0)) pd_2 rfl rfl rfl (by decide) (Nat.le_of_ble_eq_true rfl) (by decide) (by decide) (fun T h14 v14 L14 X q14 => ?_)
    obtain ⟨rfl, rfl⟩ := q14
    show Wp p e below _ (T.setTop (mkF m 45 #[.val (.ref p1), .val (.ref p2), .val (.int (2 : Int32)), .val (.int (0 : Int32)), .val (.int a0), .val (.int b0)] [(.int (own_cpo a0))]))
    refine w_iload X dprog_41_13_45 rfl ?_
    refine w_callS X dprog_41_13_47 (wd_89 hw) (wd_90 hw) (wd_40 hw) (wd_91 hw) (by decide) (argsL := [(.int b0)]) (S := [(.int (own_cpo a0))]) (m_cpo hw (x0 := b0)) pd_2 rfl rfl rfl (by decide) (Nat.le_of_ble_eq_true rfl) (by decide) (by decide) (fun T h15 v15 L15 X q15 => ?_)
    obtain ⟨rfl, rfl⟩ := q15
    show Wp p e below _ (T.setTop (mkF m 50 #[.val (.ref p1), .val (.ref p2), .val (.int (2 : Int32)), .val (.int (0 : Int32)), .val (.int a0), .val (.int b0)] [(.int (own_cpo b0)), (.int (own_cpo a0))]))
    refine w_callS X dprog_41_13_50 (wd_56 hw) (wd_57 hw) (wd_58 hw) (wd_59 hw) (by decide) (argsL := [(.int (own_cpo a0)), (.int (own_cpo b0))]) (S := []) (m_ic hw (x0 := (own_cpo a0)) (y0 := (own_cpo b0))) pd_1 rfl rfl rfl (by decide) (Nat.le_of_ble_eq_true rfl) (by decide) (by decide) (fun T h16 v16 L16 X q16 => ?_)
    obtain ⟨rfl, rfl⟩ := q16
    show Wp p e below _ (T.setTop (mkF m 53 #[.val (.ref p1), .val (.ref p2), .val (.int (2 : Int32)), .val (.int (0 : Int32)), .val (.int a0), .val (.int b0)] [(.int (own_icmp (own_cpo a0) (own_cpo b0)))]))
    exact w_retI X dprog_41_13_53 ⟨by simp only [own_cu, *, if_true, if_false], rfl⟩ (by decide) (by decide)
set_option maxRecDepth 65536 in
set_option maxHeartbeats 40000000 in
theorem m_lca_3_2 {l : Launch} {Z : State} {a0 : Array Value} {n0 : Nat} (hw : ∀ d ∈ tables_1, d.before a0 Z = true) {h0 : Heap} {zc : Int32} {fm : Value} {t : Addr} {x0 x1 x2 : Int32} (hS : own_S Z zc fm) (At : Ary Z h0 t .byte [(.int x0), (.int x1), (.int x2)]) :
    Does l Z n0 ⟨"java/lang/StringLatin1", "charAt", "([BI)C"⟩ jdk_43_method_2_code 2 (some .char) [] { frames := 2, cells := 0, slots := 0, locals := 27 } #[(.ref t), (.int (2 : Int32))] h0 (fun v h => v = some (.int ((x2 &&& (255 : Int32)).toUInt32.toUInt16.toUInt32.toInt32)) ∧ h0 = h) := by
  refine Does.start (plainFor_of_name pn_7) ?_
  obtain ⟨S_zc, hzc, S_fm, hfm⟩ := id hS
  intro p e s m below meth c T X
  replace X : Sd Z n0 0 jdk_43_method_2_code 2 "java/lang/StringLatin1" "charAt" (some .char) h0 p l e { frames := 2, cells := 0, slots := 0, locals := 27 } s m #[(.ref t), (.int (2 : Int32))] below meth c T [] 0 0 := X
  refine Wp.cast (g' := mkF m 0 #[.val (.ref t), .val (.int (2 : Int32))] []) (by first | (simp [entryFrame, mkF, argsToLocals, Value.category, maxLocals]; done) | rfl) ?_
  refine w_iloadN X djdk_43_2_0 rfl ?_
  refine w_aloadN X djdk_43_2_1 rfl (rfl) ?_
  refine w_arrlen X (3 : Int32) djdk_43_2_2 At rfl ?_
  refine w_callS X djdk_43_2_3 (wd_81 hw) (wd_82 hw) (wd_7 hw) (wd_83 hw) (by decide) (argsL := [(.int (2 : Int32)), (.int (3 : Int32))]) (S := []) (m_sci hw hS (by decide) (by decide)) pd_15 rfl rfl rfl (by decide) (Nat.le_of_ble_eq_true rfl) (by decide) (by decide) (fun T h1 v1 L1 X q1 => ?_)
  obtain ⟨rfl, rfl⟩ := q1
  show Wp p e below _ (T.setTop (mkF m 6 #[.val (.ref t), .val (.int (2 : Int32))] []))
  refine w_aloadN X djdk_43_2_6 rfl (rfl) ?_
  refine w_iloadN X djdk_43_2_7 rfl ?_
  refine w_baload X djdk_43_2_8 At (by decide) rfl ?_
  refine w_sipush X (255 : Int32) djdk_43_2_9 rfl ?_
  refine w_iand X djdk_43_2_12 ?_
  refine w_i2c X djdk_43_2_13 ?_
  exact w_ret_char X ((x2 &&& (255 : Int32)).toUInt32.toUInt16.toUInt32.toInt32) (own_nar_c _) djdk_43_2_14 ⟨rfl, rfl⟩ (by decide) (by decide)
set_option maxRecDepth 65536 in
set_option maxHeartbeats 40000000 in
theorem m_uci_3_2 {l : Launch} {Z : State} {a0 : Array Value} {n0 : Nat} (hw : ∀ d ∈ tables_1, d.before a0 Z = true) {h0 : Heap} {zc : Int32} {fm : Value} {a : Addr} {x0 x1 x2 x3 x4 x5 : Int32} (hS : own_S Z zc fm) (Aa : Ary Z h0 a .byte [(.int x0), (.int x1), (.int x2), (.int x3), (.int x4), (.int x5)]) :
    Does l Z n0 ⟨"java/lang/StringUTF16", "checkIndex", "(I[B)V"⟩ jdk_52_method_91_code 2 none [] { frames := 2, cells := 0, slots := 0, locals := 27 } #[(.int (2 : Int32)), (.ref a)] h0 (fun v h => v = none ∧ h0 = h) := by
  refine Does.start (plainFor_of_name pn_5) ?_
  obtain ⟨S_zc, hzc, S_fm, hfm⟩ := id hS
  intro p e s m below meth c T X
  replace X : Sd Z n0 0 jdk_52_method_91_code 2 "java/lang/StringUTF16" "checkIndex" none h0 p l e { frames := 2, cells := 0, slots := 0, locals := 27 } s m #[(.int (2 : Int32)), (.ref a)] below meth c T [] 0 0 := X
  refine Wp.cast (g' := mkF m 0 #[.val (.int (2 : Int32)), .val (.ref a)] []) (by first | (simp [entryFrame, mkF, argsToLocals, Value.category, maxLocals]; done) | rfl) ?_
  refine w_iloadN X djdk_52_91_0 rfl ?_
  refine w_aloadN X djdk_52_91_1 rfl (rfl) ?_
  refine w_callS X djdk_52_91_2 (wd_126 hw) (wd_127 hw) (wd_22 hw) (wd_128 hw) (by decide) (argsL := [(.ref a)]) (S := [(.int (2 : Int32))]) (m_ulen_3 hw Aa) pd_16 rfl rfl rfl (by decide) (Nat.le_of_ble_eq_true rfl) (by decide) (by decide) (fun T h1 v1 L1 X q1 => ?_)
  obtain ⟨rfl, rfl⟩ := q1
  show Wp p e below _ (T.setTop (mkF m 5 #[.val (.int (2 : Int32)), .val (.ref a)] [(.int (3 : Int32)), (.int (2 : Int32))]))
  refine w_callS X djdk_52_91_5 (wd_129 hw) (wd_82 hw) (wd_7 hw) (wd_83 hw) (by decide) (argsL := [(.int (2 : Int32)), (.int (3 : Int32))]) (S := []) (m_sci hw hS (by decide) (by decide)) pd_15 rfl rfl rfl (by decide) (Nat.le_of_ble_eq_true rfl) (by decide) (by decide) (fun T h2 v2 L2 X q2 => ?_)
  obtain ⟨rfl, rfl⟩ := q2
  show Wp p e below _ (T.setTop (mkF m 8 #[.val (.int (2 : Int32)), .val (.ref a)] []))
  exact w_retV X djdk_52_91_8 ⟨rfl, rfl⟩ (by decide) (by decide)
set_option maxRecDepth 65536 in
set_option maxHeartbeats 40000000 in
theorem m_uca_3_2 {l : Launch} {Z : State} {a0 : Array Value} {n0 : Nat} (hw : ∀ d ∈ tables_1, d.before a0 Z = true) {h0 : Heap} {zc : Int32} {fm : Value} {a : Addr} {c0 c1 c2 : Int32} (hU : own_U Z zc fm) (Aa : Ary Z h0 a .byte [(.int ((c0 >>> ((0 : Int32) &&& 31)).toInt8.toInt32)), (.int ((c0 >>> ((8 : Int32) &&& 31)).toInt8.toInt32)), (.int ((c1 >>> ((0 : Int32) &&& 31)).toInt8.toInt32)), (.int ((c1 >>> ((8 : Int32) &&& 31)).toInt8.toInt32)), (.int ((c2 >>> ((0 : Int32) &&& 31)).toInt8.toInt32)), (.int ((c2 >>> ((8 : Int32) &&& 31)).toInt8.toInt32))]) (nk : nar .char c2 = c2) :
    Does l Z n0 ⟨"java/lang/StringUTF16", "charAt", "([BI)C"⟩ jdk_52_method_83_code 2 (some .char) [] { frames := 3, cells := 0, slots := 0, locals := 40 } #[(.ref a), (.int (2 : Int32))] h0 (fun v h => v = some (.int c2) ∧ h0 = h) := by
  refine Does.start (plainFor_of_name pn_5) ?_
  obtain ⟨hS, S_ad, S_hi, S_lo⟩ := id hU
  obtain ⟨S_zc, hzc, S_fm, hfm⟩ := id hS
  intro p e s m below meth c T X
  replace X : Sd Z n0 0 jdk_52_method_83_code 2 "java/lang/StringUTF16" "charAt" (some .char) h0 p l e { frames := 3, cells := 0, slots := 0, locals := 40 } s m #[(.ref a), (.int (2 : Int32))] below meth c T [] 0 0 := X
  refine Wp.cast (g' := mkF m 0 #[.val (.ref a), .val (.int (2 : Int32))] []) (by first | (simp [entryFrame, mkF, argsToLocals, Value.category, maxLocals]; done) | rfl) ?_
  refine w_iloadN X djdk_52_83_0 rfl ?_
  refine w_aloadN X djdk_52_83_1 rfl (rfl) ?_
  refine w_callS X djdk_52_83_2 (wd_123 hw) (wd_124 hw) (wd_22 hw) (wd_125 hw) (by decide) (argsL := [(.int (2 : Int32)), (.ref a)]) (S := []) (m_uci_3_2 hw hS Aa) pd_17 rfl rfl rfl (by decide) (Nat.le_of_ble_eq_true rfl) (by decide) (by decide) (fun T h1 v1 L1 X q1 => ?_)
  obtain ⟨rfl, rfl⟩ := q1
  show Wp p e below _ (T.setTop (mkF m 5 #[.val (.ref a), .val (.int (2 : Int32))] []))
  refine w_aloadN X djdk_52_83_5 rfl (rfl) ?_
  refine w_iloadN X djdk_52_83_6 rfl ?_
  refine w_callS X djdk_52_83_7 (wd_117 hw) (wd_118 hw) (wd_22 hw) (wd_119 hw) (by decide) (argsL := [(.ref a), (.int (2 : Int32))]) (S := []) (m_getc_3_2 hw (r := c2) hU Aa (own_utf nk)) pd_11 rfl rfl rfl (by decide) (Nat.le_of_ble_eq_true rfl) (by decide) (by decide) (fun T h2 v2 L2 X q2 => ?_)
  obtain ⟨rfl, rfl⟩ := q2
  show Wp p e below _ (T.setTop (mkF m 10 #[.val (.ref a), .val (.int (2 : Int32))] [(.int c2)]))
  exact w_ret_char X c2 nk djdk_52_83_10 ⟨rfl, rfl⟩ (by decide) (by decide)
set_option maxRecDepth 65536 in
set_option maxHeartbeats 40000000 in
theorem m_tca_3_2 {l : Launch} {Z : State} {a0 : Array Value} {n0 : Nat} (hw : ∀ d ∈ tables_1, d.before a0 Z = true) {h0 : Heap} {zc : Int32} {fm : Value} {a t : Addr} {c0 c1 c2 : Int32} (hU : own_U Z zc fm) (Tx : Txt Z h0 a t [c0, c1, c2]) (nk : nar .char c2 = c2) :
    Does l Z n0 ⟨"java/lang/String", "charAt", "(I)C"⟩ jdk_42_method_56_code 2 (some .char) [] { frames := 4, cells := 0, slots := 0, locals := 53 } #[(.ref a), (.int (2 : Int32))] h0 (fun v h => v = some (.int c2) ∧ h0 = h) := by
  refine Does.start (plainFor_of_name pn_4) ?_
  obtain ⟨hS, S_ad, S_hi, S_lo⟩ := id hU
  obtain ⟨S_zc, hzc, S_fm, hfm⟩ := id hS
  intro p e s m below meth c T X
  replace X : Sd Z n0 0 jdk_42_method_56_code 2 "java/lang/String" "charAt" (some .char) h0 p l e { frames := 4, cells := 0, slots := 0, locals := 53 } s m #[(.ref a), (.int (2 : Int32))] below meth c T [] 0 0 := X
  refine Wp.cast (g' := mkF m 0 #[.val (.ref a), .val (.int (2 : Int32))] []) (by first | (simp [entryFrame, mkF, argsToLocals, Value.category, maxLocals]; done) | rfl) ?_
  obtain ⟨Ea, Va, hT⟩ := Tx
  rcases hT with ⟨Ca, At, hl⟩ | ⟨Ca, At⟩
  · replace At : Ary Z h0 t .byte [(.int (c0.toInt8.toInt32)), (.int (c1.toInt8.toInt32)), (.int (c2.toInt8.toInt32))] := At
    refine w_aloadN X djdk_42_56_0 rfl (rfl) ?_
    refine w_callV X djdk_42_56_1 (wd_72 hw) (wd_73 hw) (notFace_of_selects (args := #[]) (mvT X.hZ (wd_75 hw))) (wd_75 hw) (wd_74 hw) (wd_7 hw) (wd_76 hw) (by decide) Ea (argsL := []) (S := []) (m_isl hw hS Ca) pd_18 rfl rfl rfl (by decide) (Nat.le_of_ble_eq_true rfl) (by decide) (by decide) (fun T h1 v1 L1 X q1 => ?_)
    obtain ⟨rfl, rfl⟩ := q1
    show Wp p e below _ (T.setTop (mkF m 4 #[.val (.ref a), .val (.int (2 : Int32))] [(.int (1 : Int32))]))
    refine w_ifeq X djdk_42_56_4 (fun hc => absurd hc (by decide)) (fun _ => ?_)
    refine w_aloadN X djdk_42_56_7 rfl (rfl) ?_
    refine w_getF X djdk_42_56_8 (host := "") (Or.inl (wd_33 hw)) Via.refl Va (fun T X => ?_)
    refine w_iloadN X djdk_42_56_11 rfl ?_
    refine w_callS X djdk_42_56_12 (wd_77 hw) (wd_78 hw) (wd_79 hw) (wd_80 hw) (by decide) (argsL := [(.ref t), (.int (2 : Int32))]) (S := []) (m_lca_3_2 hw hS At) pd_11 rfl rfl rfl (by decide) (Nat.le_of_ble_eq_true rfl) (by decide) (by decide) (fun T h2 v2 L2 X q2 => ?_)
    obtain ⟨rfl, rfl⟩ := q2
    show Wp p e below _ (T.setTop (mkF m 15 #[.val (.ref a), .val (.int (2 : Int32))] [(.int (((c2.toInt8.toInt32) &&& (255 : Int32)).toUInt32.toUInt16.toUInt32.toInt32))]))
    exact w_ret_char X (((c2.toInt8.toInt32) &&& (255 : Int32)).toUInt32.toUInt16.toUInt32.toInt32) (own_nar_c _) djdk_42_56_15 ⟨by rw [own_lat nk (hl c2 (List.mem_of_getElem? (i := 2) rfl))], rfl⟩ (by decide) (by decide)
  · replace At : Ary Z h0 t .byte [(.int ((c0 >>> ((0 : Int32) &&& 31)).toInt8.toInt32)), (.int ((c0 >>> ((8 : Int32) &&& 31)).toInt8.toInt32)), (.int ((c1 >>> ((0 : Int32) &&& 31)).toInt8.toInt32)), (.int ((c1 >>> ((8 : Int32) &&& 31)).toInt8.toInt32)), (.int ((c2 >>> ((0 : Int32) &&& 31)).toInt8.toInt32)), (.int ((c2 >>> ((8 : Int32) &&& 31)).toInt8.toInt32))] := At
    refine w_aloadN X djdk_42_56_0 rfl (rfl) ?_
    refine w_callV X djdk_42_56_1 (wd_72 hw) (wd_73 hw) (notFace_of_selects (args := #[]) (mvT X.hZ (wd_75 hw))) (wd_75 hw) (wd_74 hw) (wd_7 hw) (wd_76 hw) (by decide) Ea (argsL := []) (S := []) (m_isl1 hw hS Ca) pd_18 rfl rfl rfl (by decide) (Nat.le_of_ble_eq_true rfl) (by decide) (by decide) (fun T h3 v3 L3 X q3 => ?_)
    obtain ⟨rfl, rfl⟩ := q3
    show Wp p e below _ (T.setTop (mkF m 4 #[.val (.ref a), .val (.int (2 : Int32))] [(.int (0 : Int32))]))
    refine w_ifeq X djdk_42_56_4 (fun _ => ?_) (fun hc => absurd rfl hc)
    refine w_aloadN X djdk_42_56_16 rfl (rfl) ?_
    refine w_getF X djdk_42_56_17 (host := "") (Or.inl (wd_33 hw)) Via.refl Va (fun T X => ?_)
    refine w_iloadN X djdk_42_56_20 rfl ?_
    refine w_callS X djdk_42_56_21 (wd_120 hw) (wd_121 hw) (wd_22 hw) (wd_122 hw) (by decide) (argsL := [(.ref t), (.int (2 : Int32))]) (S := []) (m_uca_3_2 hw hU At nk) pd_11 rfl rfl rfl (by decide) (Nat.le_of_ble_eq_true rfl) (by decide) (by decide) (fun T h4 v4 L4 X q4 => ?_)
    obtain ⟨rfl, rfl⟩ := q4
    show Wp p e below _ (T.setTop (mkF m 24 #[.val (.ref a), .val (.int (2 : Int32))] [(.int c2)]))
    exact w_ret_char X c2 nk djdk_42_56_24 ⟨rfl, rfl⟩ (by decide) (by decide)
set_option maxRecDepth 65536 in
set_option maxHeartbeats 40000000 in
theorem m_cu_3_3 {l : Launch} {Z : State} {a0 : Array Value} {n0 : Nat} (hw : ∀ d ∈ tables_1, d.before a0 Z = true) {h0 : Heap} {zc : Int32} {fm : Value} {p1 p2 t1 t2 : Addr} {a0 a1 a2 b0 b1 b2 : Int32} (hU : own_U Z zc fm) (Ta : Txt Z h0 p1 t1 [a0, a1, a2]) (Tb : Txt Z h0 p2 t2 [b0, b1, b2]) (ha0 : nar .char a0 = a0) (ha1 : nar .char a1 = a1) (ha2 : nar .char a2 = a2) (hb0 : nar .char b0 = b0) (hb1 : nar .char b1 = b1) (hb2 : nar .char b2 = b2) :
    Does l Z n0 ⟨"com/example/whole_session/wholesession/Run", "compareUtf8", "(Ljava/lang/String;Ljava/lang/String;)I"⟩ prog_41_method_13_code 6 (some .int) [] { frames := 5, cells := 0, slots := 0, locals := 66 } #[(.ref p1), (.ref p2)] h0 (fun v h => v = some (.int (own_cu [a0, a1, a2] [b0, b1, b2] (3 : Int32) (3 : Int32))) ∧ h0 = h) := by
  refine Does.start (plainFor_of_name pn_3) ?_
  obtain ⟨hS, S_ad, S_hi, S_lo⟩ := id hU
  obtain ⟨S_zc, hzc, S_fm, hfm⟩ := id hS
  intro p e s m below meth c T X
  replace X : Sd Z n0 0 prog_41_method_13_code 6 "com/example/whole_session/wholesession/Run" "compareUtf8" (some .int) h0 p l e { frames := 5, cells := 0, slots := 0, locals := 66 } s m #[(.ref p1), (.ref p2)] below meth c T [] 0 0 := X
  refine Wp.cast (g' := mkF m 0 #[.val (.ref p1), .val (.ref p2), .unset, .unset, .unset, .unset] []) (by first | (simp [entryFrame, mkF, argsToLocals, Value.category, maxLocals]; done) | rfl) ?_
  refine w_aloadN X dprog_41_13_0 rfl (rfl) ?_
  refine w_callV X dprog_41_13_1 (wd_42 hw) (wd_43 hw) (notFace_of_selects (args := #[]) (mvT X.hZ (wd_45 hw))) (wd_45 hw) (wd_44 hw) (wd_7 hw) (wd_46 hw) (by decide) Ta.1 (argsL := []) (S := []) (m_tlen_3 hw hS Ta) pd_13 rfl rfl rfl (by decide) (Nat.le_of_ble_eq_true rfl) (by decide) (by decide) (fun T h1 v1 L1 X q1 => ?_)
  obtain ⟨rfl, rfl⟩ := q1
  show Wp p e below _ (T.setTop (mkF m 4 #[.val (.ref p1), .val (.ref p2), .unset, .unset, .unset, .unset] [(.int (3 : Int32))]))
  refine w_aloadN X dprog_41_13_4 rfl (rfl) ?_
  refine w_callV X dprog_41_13_5 (wd_42 hw) (wd_43 hw) (notFace_of_selects (args := #[]) (mvT X.hZ (wd_45 hw))) (wd_45 hw) (wd_44 hw) (wd_7 hw) (wd_46 hw) (by decide) Tb.1 (argsL := []) (S := [(.int (3 : Int32))]) (m_tlen_3 hw hS Tb) pd_13 rfl rfl rfl (by decide) (Nat.le_of_ble_eq_true rfl) (by decide) (by decide) (fun T h2 v2 L2 X q2 => ?_)
  obtain ⟨rfl, rfl⟩ := q2
  show Wp p e below _ (T.setTop (mkF m 8 #[.val (.ref p1), .val (.ref p2), .unset, .unset, .unset, .unset] [(.int (3 : Int32)), (.int (3 : Int32))]))
  refine w_callS X dprog_41_13_8 (wd_52 hw) (wd_53 hw) (wd_54 hw) (wd_55 hw) (by decide) (argsL := [(.int (3 : Int32)), (.int (3 : Int32))]) (S := []) (m_min hw (r := (3 : Int32)) (by decide)) pd_1 rfl rfl rfl (by decide) (Nat.le_of_ble_eq_true rfl) (by decide) (by decide) (fun T h3 v3 L3 X q3 => ?_)
  obtain ⟨rfl, rfl⟩ := q3
  show Wp p e below _ (T.setTop (mkF m 11 #[.val (.ref p1), .val (.ref p2), .unset, .unset, .unset, .unset] [(.int (3 : Int32))]))
  refine w_istoreN X #[.val (.ref p1), .val (.ref p2), .val (.int (3 : Int32)), .unset, .unset, .unset] dprog_41_13_11 rfl ?_
  refine w_iconst X (0 : Int32) dprog_41_13_12 rfl ?_
  refine w_istoreN X #[.val (.ref p1), .val (.ref p2), .val (.int (3 : Int32)), .val (.int (0 : Int32)), .unset, .unset] dprog_41_13_13 rfl ?_
  refine w_iloadN X dprog_41_13_14 rfl ?_
  refine w_iloadN X dprog_41_13_15 rfl ?_
  refine w_icmpge X dprog_41_13_16 (fun hc => absurd (by decide) hc) (fun _ => ?_)
  refine w_aloadN X dprog_41_13_19 rfl (rfl) ?_
  refine w_iloadN X dprog_41_13_20 rfl ?_
  refine w_callV X dprog_41_13_21 (wd_67 hw) (wd_68 hw) (notFace_of_selects (args := #[]) (mvT X.hZ (wd_70 hw))) (wd_70 hw) (wd_69 hw) (wd_7 hw) (wd_71 hw) (by decide) Ta.1 (argsL := [(.int (0 : Int32))]) (S := []) (m_tca_3_0 hw hU Ta ha0) pd_19 rfl rfl rfl (by decide) (Nat.le_of_ble_eq_true rfl) (by decide) (by decide) (fun T h4 v4 L4 X q4 => ?_)
  obtain ⟨rfl, rfl⟩ := q4
  show Wp p e below _ (T.setTop (mkF m 24 #[.val (.ref p1), .val (.ref p2), .val (.int (3 : Int32)), .val (.int (0 : Int32)), .unset, .unset] [(.int a0)]))
  refine w_istore X #[.val (.ref p1), .val (.ref p2), .val (.int (3 : Int32)), .val (.int (0 : Int32)), .val (.int a0), .unset] dprog_41_13_24 rfl ?_
  refine w_aloadN X dprog_41_13_26 rfl (rfl) ?_
  refine w_iloadN X dprog_41_13_27 rfl ?_
  refine w_callV X dprog_41_13_28 (wd_67 hw) (wd_68 hw) (notFace_of_selects (args := #[]) (mvT X.hZ (wd_70 hw))) (wd_70 hw) (wd_69 hw) (wd_7 hw) (wd_71 hw) (by decide) Tb.1 (argsL := [(.int (0 : Int32))]) (S := []) (m_tca_3_0 hw hU Tb hb0) pd_19 rfl rfl rfl (by decide) (Nat.le_of_ble_eq_true rfl) (by decide) (by decide) (fun T h5 v5 L5 X q5 => ?_)
  obtain ⟨rfl, rfl⟩ := q5
  show Wp p e below _ (T.setTop (mkF m 31 #[.val (.ref p1), .val (.ref p2), .val (.int (3 : Int32)), .val (.int (0 : Int32)), .val (.int a0), .unset] [(.int b0)]))
  refine w_istore X #[.val (.ref p1), .val (.ref p2), .val (.int (3 : Int32)), .val (.int (0 : Int32)), .val (.int a0), .val (.int b0)] dprog_41_13_31 rfl ?_
  refine w_iload X dprog_41_13_33 rfl ?_
  refine w_iload X dprog_41_13_35 rfl ?_
  refine w_icmpeq X dprog_41_13_37 (fun (hc37 : a0 = b0) => ?_) (fun (hc37 : ¬ a0 = b0) => ?_)
  · refine w_iinc X (1 : Int32) #[.val (.ref p1), .val (.ref p2), .val (.int (3 : Int32)), .val (.int (1 : Int32)), .val (.int a0), .val (.int b0)] dprog_41_13_54 rfl rfl rfl ?_
    refine w_goto X dprog_41_13_57 ?_
    refine w_iloadN X dprog_41_13_14 rfl ?_
    refine w_iloadN X dprog_41_13_15 rfl ?_
    refine w_icmpge X dprog_41_13_16 (fun hc => absurd (by decide) hc) (fun _ => ?_)
    refine w_aloadN X dprog_41_13_19 rfl (rfl) ?_
    refine w_iloadN X dprog_41_13_20 rfl ?_
    refine w_callV X dprog_41_13_21 (wd_67 hw) (wd_68 hw) (notFace_of_selects (args := #[]) (mvT X.hZ (wd_70 hw))) (wd_70 hw) (wd_69 hw) (wd_7 hw) (wd_71 hw) (by decide) Ta.1 (argsL := [(.int (1 : Int32))]) (S := []) (m_tca_3_1 hw hU Ta ha1) pd_19 rfl rfl rfl (by decide) (Nat.le_of_ble_eq_true rfl) (by decide) (by decide) (fun T h6 v6 L6 X q6 => ?_)
    obtain ⟨rfl, rfl⟩ := q6
    show Wp p e below _ (T.setTop (mkF m 24 #[.val (.ref p1), .val (.ref p2), .val (.int (3 : Int32)), .val (.int (1 : Int32)), .val (.int a0), .val (.int b0)] [(.int a1)]))
    refine w_istore X #[.val (.ref p1), .val (.ref p2), .val (.int (3 : Int32)), .val (.int (1 : Int32)), .val (.int a1), .val (.int b0)] dprog_41_13_24 rfl ?_
    refine w_aloadN X dprog_41_13_26 rfl (rfl) ?_
    refine w_iloadN X dprog_41_13_27 rfl ?_
    refine w_callV X dprog_41_13_28 (wd_67 hw) (wd_68 hw) (notFace_of_selects (args := #[]) (mvT X.hZ (wd_70 hw))) (wd_70 hw) (wd_69 hw) (wd_7 hw) (wd_71 hw) (by decide) Tb.1 (argsL := [(.int (1 : Int32))]) (S := []) (m_tca_3_1 hw hU Tb hb1) pd_19 rfl rfl rfl (by decide) (Nat.le_of_ble_eq_true rfl) (by decide) (by decide) (fun T h7 v7 L7 X q7 => ?_)
    obtain ⟨rfl, rfl⟩ := q7
    show Wp p e below _ (T.setTop (mkF m 31 #[.val (.ref p1), .val (.ref p2), .val (.int (3 : Int32)), .val (.int (1 : Int32)), .val (.int a1), .val (.int b0)] [(.int b1)]))
    refine w_istore X #[.val (.ref p1), .val (.ref p2), .val (.int (3 : Int32)), .val (.int (1 : Int32)), .val (.int a1), .val (.int b1)] dprog_41_13_31 rfl ?_
    refine w_iload X dprog_41_13_33 rfl ?_
    refine w_iload X dprog_41_13_35 rfl ?_
    refine w_icmpeq X dprog_41_13_37 (fun (hc37_1 : a1 = b1) => ?_) (fun (hc37_1 : ¬ a1 = b1) => ?_)
    · refine w_iinc X (1 : Int32) #[.val (.ref p1), .val (.ref p2), .val (.int (3 : Int32)), .val (.int (2 : Int32)), .val (.int a1), .val (.int b1)] dprog_41_13_54 rfl rfl rfl ?_
      refine w_goto X dprog_41_13_57 ?_
      refine w_iloadN X dprog_41_13_14 rfl ?_
      refine w_iloadN X dprog_41_13_15 rfl ?_
      refine w_icmpge X dprog_41_13_16 (fun hc => absurd (by decide) hc) (fun _ => ?_)
      refine w_aloadN X dprog_41_13_19 rfl (rfl) ?_
      refine w_iloadN X dprog_41_13_20 rfl ?_
      refine w_callV X dprog_41_13_21 (wd_67 hw) (wd_68 hw) (notFace_of_selects (args := #[]) (mvT X.hZ (wd_70 hw))) (wd_70 hw) (wd_69 hw) (wd_7 hw) (wd_71 hw) (by decide) Ta.1 (argsL := [(.int (2 : Int32))]) (S := []) (m_tca_3_2 hw hU Ta ha2) pd_19 rfl rfl rfl (by decide) (Nat.le_of_ble_eq_true rfl) (by decide) (by decide) (fun T h8 v8 L8 X q8 => ?_)
      obtain ⟨rfl, rfl⟩ := q8
      show Wp p e below _ (T.setTop (mkF m 24 #[.val (.ref p1), .val (.ref p2), .val (.int (3 : Int32)), .val (.int (2 : Int32)), .val (.int a1), .val (.int b1)] [(.int a2)]))
      refine w_istore X #[.val (.ref p1), .val (.ref p2), .val (.int (3 : Int32)), .val (.int (2 : Int32)), .val (.int a2), .val (.int b1)] dprog_41_13_24 rfl ?_
      refine w_aloadN X dprog_41_13_26 rfl (rfl) ?_
      refine w_iloadN X dprog_41_13_27 rfl ?_
      refine w_callV X dprog_41_13_28 (wd_67 hw) (wd_68 hw) (notFace_of_selects (args := #[]) (mvT X.hZ (wd_70 hw))) (wd_70 hw) (wd_69 hw) (wd_7 hw) (wd_71 hw) (by decide) Tb.1 (argsL := [(.int (2 : Int32))]) (S := []) (m_tca_3_2 hw hU Tb hb2) pd_19 rfl rfl rfl (by decide) (Nat.le_of_ble_eq_true rfl) (by decide) (by decide) (fun T h9 v9 L9 X q9 => ?_)
      obtain ⟨rfl, rfl⟩ := q9
      show Wp p e below _ (T.setTop (mkF m 31 #[.val (.ref p1), .val (.ref p2), .val (.int (3 : Int32)), .val (.int (2 : Int32)), .val (.int a2), .val (.int b1)] [(.int b2)]))
      refine w_istore X #[.val (.ref p1), .val (.ref p2), .val (.int (3 : Int32)), .val (.int (2 : Int32)), .val (.int a2), .val (.int b2)] dprog_41_13_31 rfl ?_
      refine w_iload X dprog_41_13_33 rfl ?_
      refine w_iload X dprog_41_13_35 rfl ?_
      refine w_icmpeq X dprog_41_13_37 (fun (hc37_2 : a2 = b2) => ?_) (fun (hc37_2 : ¬ a2 = b2) => ?_)
      · refine w_iinc X (1 : Int32) #[.val (.ref p1), .val (.ref p2), .val (.int (3 : Int32)), .val (.int (3 : Int32)), .val (.int a2), .val (.int b2)] dprog_41_13_54 rfl rfl rfl ?_
        refine w_goto X dprog_41_13_57 ?_
        refine w_iloadN X dprog_41_13_14 rfl ?_
        refine w_iloadN X dprog_41_13_15 rfl ?_
        refine w_icmpge X dprog_41_13_16 (fun _ => ?_) (fun hc => absurd hc Int32.lt_irrefl)
        refine w_aloadN X dprog_41_13_60 rfl (rfl) ?_
        refine w_callV X dprog_41_13_61 (wd_42 hw) (wd_43 hw) (notFace_of_selects (args := #[]) (mvT X.hZ (wd_45 hw))) (wd_45 hw) (wd_44 hw) (wd_7 hw) (wd_46 hw) (by decide) Ta.1 (argsL := []) (S := []) (m_tlen_3 hw hS Ta) pd_13 rfl rfl rfl (by decide) (Nat.le_of_ble_eq_true rfl) (by decide) (by decide) (fun T h10 v10 L10 X q10 => ?_)
        obtain ⟨rfl, rfl⟩ := q10
        show Wp p e below _ (T.setTop (mkF m 64 #[.val (.ref p1), .val (.ref p2), .val (.int (3 : Int32)), .val (.int (3 : Int32)), .val (.int a2), .val (.int b2)] [(.int (3 : Int32))]))
        refine w_aloadN X dprog_41_13_64 rfl (rfl) ?_
        refine w_callV X dprog_41_13_65 (wd_42 hw) (wd_43 hw) (notFace_of_selects (args := #[]) (mvT X.hZ (wd_45 hw))) (wd_45 hw) (wd_44 hw) (wd_7 hw) (wd_46 hw) (by decide) Tb.1 (argsL := []) (S := [(.int (3 : Int32))]) (m_tlen_3 hw hS Tb) pd_13 rfl rfl rfl (by decide) (Nat.le_of_ble_eq_true rfl) (by decide) (by decide) (fun T h11 v11 L11 X q11 => ?_)
        obtain ⟨rfl, rfl⟩ := q11
        show Wp p e below _ (T.setTop (mkF m 68 #[.val (.ref p1), .val (.ref p2), .val (.int (3 : Int32)), .val (.int (3 : Int32)), .val (.int a2), .val (.int b2)] [(.int (3 : Int32)), (.int (3 : Int32))]))
        refine w_callS X dprog_41_13_68 (wd_56 hw) (wd_57 hw) (wd_58 hw) (wd_59 hw) (by decide) (argsL := [(.int (3 : Int32)), (.int (3 : Int32))]) (S := []) (m_ic hw (x0 := (3 : Int32)) (y0 := (3 : Int32))) pd_1 rfl rfl rfl (by decide) (Nat.le_of_ble_eq_true rfl) (by decide) (by decide) (fun T h12 v12 L12 X q12 => ?_)
        obtain ⟨rfl, rfl⟩ := q12
        show Wp p e below _ (T.setTop (mkF m 71 #[.val (.ref p1), .val (.ref p2), .val (.int (3 : Int32)), .val (.int (3 : Int32)), .val (.int a2), .val (.int b2)] [(.int (own_icmp (3 : Int32) (3 : Int32)))]))
        exact w_retI X dprog_41_13_71 ⟨by simp only [own_cu, *, if_true, if_false], rfl⟩ (by decide) (by decide)
      · refine w_iload X dprog_41_13_40 rfl ?_
        refine w_callS X dprog_41_13_42 (wd_89 hw) (wd_90 hw) (wd_40 hw) (wd_91 hw) (by decide) (argsL := [(.int a2)]) (S := []) (m_cpo hw (x0 := a2)) pd_2 rfl rfl rfl (by decide) (Nat.le_of_ble_eq_true rfl) (by decide) (by decide) (fun T h13 v13 L13 X q13 => ?_)
        obtain ⟨rfl, rfl⟩ := q13
        show Wp p e below _ (T.setTop (mkF m 45 #[.val (.ref p1), .val (.ref p2), .val (.int (3 : Int32)), .val (.int (2 : Int32)), .val (.int a2), .val (.int b2)] [(.int (own_cpo a2))]))
        refine w_iload X dprog_41_13_45 rfl ?_
        refine w_callS X dprog_41_13_47 (wd_89 hw) (wd_90 hw) (wd_40 hw) (wd_91 hw) (by decide) (argsL := [(.int b2)]) (S := [(.int (own_cpo a2))]) (m_cpo hw (x0 := b2)) pd_2 rfl rfl rfl (by decide) (Nat.le_of_ble_eq_true rfl) (by decide) (by decide) (fun T h14 v14 L14 X q14 => ?_)
        obtain ⟨rfl, rfl⟩ := q14
        show Wp p e below _ (T.setTop (mkF m 50 #[.val (.ref p1), .val (.ref p2), .val (.int (3 : Int32)), .val (.int (2 : Int32)), .val (.int a2), .val (.int b2)] [(.int (own_cpo b2)), (.int (own_cpo a2))]))
        refine w_callS X dprog_41_13_50 (wd_56 hw) (wd_57 hw) (wd_58 hw) (wd_59 hw) (by decide) (argsL := [(.int (own_cpo a2)), (.int (own_cpo b2))]) (S := []) (m_ic hw (x0 := (own_cpo a2)) (y0 := (own_cpo b2))) pd_1 rfl rfl rfl (by decide) (Nat.le_of_ble_eq_true rfl) (by decide) (by decide) (fun T h15 v15 L15 X q15 => ?_)
        obtain ⟨rfl, rfl⟩ := q15
        show Wp p e below _ (T.setTop (mkF m 53 #[.val (.ref p1), .val (.ref p2), .val (.int (3 : Int32)), .val (.int (2 : Int32)), .val (.int a2), .val (.int b2)] [(.int (own_icmp (own_cpo a2) (own_cpo b2)))]))
        exact w_retI X dprog_41_13_53 ⟨by simp only [own_cu, *, if_true, if_false], rfl⟩ (by decide) (by decide)
    · refine w_iload X dprog_41_13_40 rfl ?_
      refine w_callS X dprog_41_13_42 (wd_89 hw) (wd_90 hw) (wd_40 hw) (wd_91 hw) (by decide) (argsL := [(.int a1)]) (S := []) (m_cpo hw (x0 := a1)) pd_2 rfl rfl rfl (by decide) (Nat.le_of_ble_eq_true rfl) (by decide) (by decide) (fun T h16 v16 L16 X q16 => ?_)
      obtain ⟨rfl, rfl⟩ := q16
      show Wp p e below _ (T.setTop (mkF m 45 #[.val (.ref p1), .val (.ref p2), .val (.int (3 : Int32)), .val (.int (1 : Int32)), .val (.int a1), .val (.int b1)] [(.int (own_cpo a1))]))
      refine w_iload X dprog_41_13_45 rfl ?_
      refine w_callS X dprog_41_13_47 (wd_89 hw) (wd_90 hw) (wd_40 hw) (wd_91 hw) (by decide) (argsL := [(.int b1)]) (S := [(.int (own_cpo a1))]) (m_cpo hw (x0 := b1)) pd_2 rfl rfl rfl (by decide) (Nat.le_of_ble_eq_true rfl) (by decide) (by decide) (fun T h17 v17 L17 X q17 => ?_)
      obtain ⟨rfl, rfl⟩ := q17
      show Wp p e below _ (T.setTop (mkF m 50 #[.val (.ref p1), .val (.ref p2), .val (.int (3 : Int32)), .val (.int (1 : Int32)), .val (.int a1), .val (.int b1)] [(.int (own_cpo b1)), (.int (own_cpo a1))]))
      refine w_callS X dprog_41_13_50 (wd_56 hw) (wd_57 hw) (wd_58 hw) (wd_59 hw) (by decide) (argsL := [(.int (own_cpo a1)), (.int (own_cpo b1))]) (S := []) (m_ic hw (x0 := (own_cpo a1)) (y0 := (own_cpo b1))) pd_1 rfl rfl rfl (by decide) (Nat.le_of_ble_eq_true rfl) (by decide) (by decide) (fun T h18 v18 L18 X q18 => ?_)
      obtain ⟨rfl, rfl⟩ := q18
      show Wp p e below _ (T.setTop (mkF m 53 #[.val (.ref p1), .val (.ref p2), .val (.int (3 : Int32)), .val (.int (1 : Int32)), .val (.int a1), .val (.int b1)] [(.int (own_icmp (own_cpo a1) (own_cpo b1)))]))
      exact w_retI X dprog_41_13_53 ⟨by simp only [own_cu, *, if_true, if_false], rfl⟩ (by decide) (by decide)
  · refine w_iload X dprog_41_13_40 rfl ?_
    refine w_callS X dprog_41_13_42 (wd_89 hw) (wd_90 hw) (wd_40 hw) (wd_91 hw) (by decide) (argsL := [(.int a0)]) (S := []) (m_cpo hw (x0 := a0)) pd_2 rfl rfl rfl (by decide) (Nat.le_of_ble_eq_true rfl) (by decide) (by decide) (fun T h19 v19 L19 X q19 => ?_)
    obtain ⟨rfl, rfl⟩ := q19
    show Wp p e below _ (T.setTop (mkF m 45 #[.val (.ref p1), .val (.ref p2), .val (.int (3 : Int32)), .val (.int (0 : Int32)), .val (.int a0), .val (.int b0)] [(.int (own_cpo a0))]))
    refine w_iload X dprog_41_13_45 rfl ?_
    refine w_callS X dprog_41_13_47 (wd_89 hw) (wd_90 hw) (wd_40 hw) (wd_91 hw) (by decide) (argsL := [(.int b0)]) (S := [(.int (own_cpo a0))]) (m_cpo hw (x0 := b0)) pd_2 rfl rfl rfl (by decide) (Nat.le_of_ble_eq_true rfl) (by decide) (by decide) (fun T h20 v20 L20 X q20 => ?_)
    obtain ⟨rfl, rfl⟩ := q20
    show Wp p e below _ (T.setTop (mkF m 50 #[.val (.ref p1), .val (.ref p2), .val (.int (3 : Int32)), .val (.int (0 : Int32)), .val (.int a0), .val (.int b0)] [(.int (own_cpo b0)), (.int (own_cpo a0))]))
    refine w_callS X dprog_41_13_50 (wd_56 hw) (wd_57 hw) (wd_58 hw) (wd_59 hw) (by decide) (argsL := [(.int (own_cpo a0)), (.int (own_cpo b0))]) (S := []) (m_ic hw (x0 := (own_cpo a0)) (y0 := (own_cpo b0))) pd_1 rfl rfl rfl (by decide) (Nat.le_of_ble_eq_true rfl) (by decide) (by decide) (fun T h21 v21 L21 X q21 => ?_)
    obtain ⟨rfl, rfl⟩ := q21
    show Wp p e below _ (T.setTop (mkF m 53 #[.val (.ref p1), .val (.ref p2), .val (.int (3 : Int32)), .val (.int (0 : Int32)), .val (.int a0), .val (.int b0)] [(.int (own_icmp (own_cpo a0) (own_cpo b0)))]))
    exact w_retI X dprog_41_13_53 ⟨by simp only [own_cu, *, if_true, if_false], rfl⟩ (by decide) (by decide)
set_option maxRecDepth 65536 in
set_option maxHeartbeats 40000000 in
theorem m_lawp {l : Launch} {Z : State} {a0' : Array Value} {n0 : Nat} (hw : ∀ d ∈ tables_1, d.before a0' Z = true) (hZs : Z.heap.size = n0) {zc : Int32} {fm : Value} (hU : own_U Z zc fm)  (hheld : Jvm.Lit.constHeld Z "java/lang/String" 7) (hcw : Jvm.Lit.compactW.before a0' Z = true) {x y z w la lb a0 a1 a2 b0 b1 b2 : Int32}
    {p : Program} {e : Env} {s : State} {m : MethodId} {args : Array Value} {below : List Frame} {meth : Method} {c : Code} {T : State} (X : Sd Z n0 0 code 16 "com/example/whole_session/wholesession/RunCompareUtf8PinLaw" "law" (some .boolean) Z.heap p l e room_1 (s.setVm s.vm) m args below meth c T [] 0 0) (Y : s.Since s.vm 0) (I0 : IB Z s.vm []) (hla : la = 0 ∨ la = 1 ∨ la = 2 ∨ la = 3) (hlb : lb = 0 ∨ lb = 1 ∨ lb = 2 ∨ lb = 3) (ha0 : nar .char a0 = a0) (ha1 : nar .char a1 = a1) (ha2 : nar .char a2 = a2) (hb0 : nar .char b0 = b0) (hb1 : nar .char b1 = b1) (hb2 : nar .char b2 = b2) :
    Wp p e below (PoW Z n0 s (fun v _ => v = some (.int 1)) room_1.cells room_1.slots) (T.setTop (mkF m 90 #[.val (.int x), .val (.int y), .val (.int z), .val (.int w), .val (.int la), .val (.int lb), .val (.int a0), .val (.int a1), .val (.int a2), .val (.int b0), .val (.int b1), .val (.int b2), .unset, .unset, .unset, .unset] [])) := by
  obtain ⟨hS, S_ad, S_hi, S_lo⟩ := id hU
  obtain ⟨S_zc, hzc, S_fm, hfm⟩ := id hS
  rcases hla with hla | hla | hla | hla
  · rcases hlb with hlb | hlb | hlb | hlb
    · refine w_iload X d_90 rfl ?_
      refine w_iload X d_92 rfl ?_
      refine w_iload X d_94 rfl ?_
      refine w_iload X d_96 rfl ?_
      refine g_callS X Y (fun vm' hW => (show Em Z Z.heap s.vm from Or.inl I0).warm hW) d_98 (wd_1 hw) (wd_2 hw) (wd_3 hw) (wd_4 hw) (by decide) (argsL := [(.int la), (.int a0), (.int a1), (.int a2)]) (S := []) (m_str_0 hw hU hheld hcw hla ha0 ha1 ha2) pd_20 rfl rfl rfl (by decide) (Nat.le_of_ble_eq_true rfl) (by decide) (by decide) (fun T h1 v1 L1 u kk X Y q1 => ?_)
      obtain ⟨p1, t1, rfl, Tx1, Kc1, M1⟩ := q1
      show Wp p e below _ (T.setTop (mkF m 101 #[.val (.int x), .val (.int y), .val (.int z), .val (.int w), .val (.int la), .val (.int lb), .val (.int a0), .val (.int a1), .val (.int a2), .val (.int b0), .val (.int b1), .val (.int b2), .unset, .unset, .unset, .unset] [(.ref p1)]))
      refine w_astore X #[.val (.int x), .val (.int y), .val (.int z), .val (.int w), .val (.int la), .val (.int lb), .val (.int a0), .val (.int a1), .val (.int a2), .val (.int b0), .val (.int b1), .val (.int b2), .val (.ref p1), .unset, .unset, .unset] d_101 (rfl) rfl ?_
      refine w_iload X d_103 rfl ?_
      refine w_iload X d_105 rfl ?_
      refine w_iload X d_107 rfl ?_
      refine w_iload X d_109 rfl ?_
      refine g_callS X Y (fun vm' hW => M1.warm hW) d_111 (wd_1 hw) (wd_2 hw) (wd_3 hw) (wd_4 hw) (by decide) (argsL := [(.int lb), (.int b0), (.int b1), (.int b2)]) (S := []) (m_str_0 hw hU hheld hcw hlb hb0 hb1 hb2) pd_20 rfl rfl rfl (by decide) (Nat.le_of_ble_eq_true rfl) (by decide) (by decide) (fun T h2 v2 L2 u kk X Y q2 => ?_)
      obtain ⟨p2, t2, rfl, Tx2, Kc2, M2⟩ := q2
      show Wp p e below _ (T.setTop (mkF m 114 #[.val (.int x), .val (.int y), .val (.int z), .val (.int w), .val (.int la), .val (.int lb), .val (.int a0), .val (.int a1), .val (.int a2), .val (.int b0), .val (.int b1), .val (.int b2), .val (.ref p1), .unset, .unset, .unset] [(.ref p2)]))
      refine w_astore X #[.val (.int x), .val (.int y), .val (.int z), .val (.int w), .val (.int la), .val (.int lb), .val (.int a0), .val (.int a1), .val (.int a2), .val (.int b0), .val (.int b1), .val (.int b2), .val (.ref p1), .val (.ref p2), .unset, .unset] d_114 (rfl) rfl ?_
      refine w_aload X d_116 rfl (rfl) ?_
      refine w_aload X d_118 rfl (rfl) ?_
      have f1 := (Tx1.keep Kc2 (List.not_mem_nil) (List.not_mem_nil))
      refine w_callS X d_120 (wd_38 hw) (wd_39 hw) (wd_40 hw) (wd_41 hw) (by decide) (argsL := [(.ref p1), (.ref p2)]) (S := []) (m_cu_0_0 hw hU f1 Tx2 ) pd_21 rfl rfl rfl (by decide) (Nat.le_of_ble_eq_true rfl) (by decide) (by decide) (fun T h3 v3 L3 X q3 => ?_)
      obtain ⟨rfl, rfl⟩ := q3
      show Wp p e below _ (T.setTop (mkF m 123 #[.val (.int x), .val (.int y), .val (.int z), .val (.int w), .val (.int la), .val (.int lb), .val (.int a0), .val (.int a1), .val (.int a2), .val (.int b0), .val (.int b1), .val (.int b2), .val (.ref p1), .val (.ref p2), .unset, .unset] [(.int (own_cu [] [] (0 : Int32) (0 : Int32)))]))
      refine w_callS X d_123 (wd_60 hw) (wd_61 hw) (wd_3 hw) (wd_62 hw) (by decide) (argsL := [(.int (own_cu [] [] (0 : Int32) (0 : Int32)))]) (S := []) (m_sg hw (x0 := (own_cu [] [] (0 : Int32) (0 : Int32)))) pd_8 rfl rfl rfl (by decide) (Nat.le_of_ble_eq_true rfl) (by decide) (by decide) (fun T h4 v4 L4 X q4 => ?_)
      obtain ⟨rfl, rfl⟩ := q4
      show Wp p e below _ (T.setTop (mkF m 126 #[.val (.int x), .val (.int y), .val (.int z), .val (.int w), .val (.int la), .val (.int lb), .val (.int a0), .val (.int a1), .val (.int a2), .val (.int b0), .val (.int b1), .val (.int b2), .val (.ref p1), .val (.ref p2), .unset, .unset] [(.int (own_sign (own_cu [] [] (0 : Int32) (0 : Int32))))]))
      refine w_istore X #[.val (.int x), .val (.int y), .val (.int z), .val (.int w), .val (.int la), .val (.int lb), .val (.int a0), .val (.int a1), .val (.int a2), .val (.int b0), .val (.int b1), .val (.int b2), .val (.ref p1), .val (.ref p2), .val (.int (own_sign (own_cu [] [] (0 : Int32) (0 : Int32)))), .unset] d_126 rfl ?_
      refine w_iload X d_128 rfl ?_
      refine w_iload X d_130 rfl ?_
      refine w_iload X d_132 rfl ?_
      refine w_iload X d_134 rfl ?_
      refine w_iload X d_136 rfl ?_
      refine w_iload X d_138 rfl ?_
      refine w_iload X d_140 rfl ?_
      refine w_iload X d_142 rfl ?_
      refine w_callS X d_144 (wd_63 hw) (wd_64 hw) (wd_3 hw) (wd_65 hw) (by decide) (argsL := [(.int la), (.int a0), (.int a1), (.int a2), (.int lb), (.int b0), (.int b1), (.int b2)]) (S := []) (m_ref hw (la := la) (e0 := a0) (e1 := a1) (e2 := a2) (lb := lb) (f0 := b0) (f1 := b1) (f2 := b2)) pd_22 rfl rfl rfl (by decide) (Nat.le_of_ble_eq_true rfl) (by decide) (by decide) (fun T h5 v5 L5 X q5 => ?_)
      obtain ⟨rfl, rfl⟩ := q5
      show Wp p e below _ (T.setTop (mkF m 147 #[.val (.int x), .val (.int y), .val (.int z), .val (.int w), .val (.int la), .val (.int lb), .val (.int a0), .val (.int a1), .val (.int a2), .val (.int b0), .val (.int b1), .val (.int b2), .val (.ref p1), .val (.ref p2), .val (.int (own_sign (own_cu [] [] (0 : Int32) (0 : Int32)))), .unset] [(.int (own_ref la a0 a1 a2 lb b0 b1 b2))]))
      refine w_istore X #[.val (.int x), .val (.int y), .val (.int z), .val (.int w), .val (.int la), .val (.int lb), .val (.int a0), .val (.int a1), .val (.int a2), .val (.int b0), .val (.int b1), .val (.int b2), .val (.ref p1), .val (.ref p2), .val (.int (own_sign (own_cu [] [] (0 : Int32) (0 : Int32)))), .val (.int (own_ref la a0 a1 a2 lb b0 b1 b2))] d_147 rfl ?_
      refine w_iload X d_149 rfl ?_
      refine w_iload X d_151 rfl ?_
      refine w_icmpne X d_153 (fun hc => absurd (by rw [hla, hlb]; exact own_fin_0_0 ha0 ha1 ha2 hb0 hb1 hb2) hc) (fun _ => ?_)
      refine w_iconst X (1 : Int32) d_156 rfl ?_
      refine w_goto X d_157 ?_
      exact v_ret_boolean X Y (1 : Int32) (by decide) d_161 rfl (by decide) (by decide)
    · refine w_iload X d_90 rfl ?_
      refine w_iload X d_92 rfl ?_
      refine w_iload X d_94 rfl ?_
      refine w_iload X d_96 rfl ?_
      refine g_callS X Y (fun vm' hW => (show Em Z Z.heap s.vm from Or.inl I0).warm hW) d_98 (wd_1 hw) (wd_2 hw) (wd_3 hw) (wd_4 hw) (by decide) (argsL := [(.int la), (.int a0), (.int a1), (.int a2)]) (S := []) (m_str_0 hw hU hheld hcw hla ha0 ha1 ha2) pd_20 rfl rfl rfl (by decide) (Nat.le_of_ble_eq_true rfl) (by decide) (by decide) (fun T h6 v6 L6 u kk X Y q6 => ?_)
      obtain ⟨p6, t6, rfl, Tx6, Kc6, M6⟩ := q6
      show Wp p e below _ (T.setTop (mkF m 101 #[.val (.int x), .val (.int y), .val (.int z), .val (.int w), .val (.int la), .val (.int lb), .val (.int a0), .val (.int a1), .val (.int a2), .val (.int b0), .val (.int b1), .val (.int b2), .unset, .unset, .unset, .unset] [(.ref p6)]))
      refine w_astore X #[.val (.int x), .val (.int y), .val (.int z), .val (.int w), .val (.int la), .val (.int lb), .val (.int a0), .val (.int a1), .val (.int a2), .val (.int b0), .val (.int b1), .val (.int b2), .val (.ref p6), .unset, .unset, .unset] d_101 (rfl) rfl ?_
      refine w_iload X d_103 rfl ?_
      refine w_iload X d_105 rfl ?_
      refine w_iload X d_107 rfl ?_
      refine w_iload X d_109 rfl ?_
      refine g_callS X Y (fun vm' hW => M6.warm hW) d_111 (wd_1 hw) (wd_2 hw) (wd_3 hw) (wd_4 hw) (by decide) (argsL := [(.int lb), (.int b0), (.int b1), (.int b2)]) (S := []) (m_str_1 hw hU hheld hcw hlb hb0 hb1 hb2) pd_20 rfl rfl rfl (by decide) (Nat.le_of_ble_eq_true rfl) (by decide) (by decide) (fun T h7 v7 L7 u kk X Y q7 => ?_)
      obtain ⟨p7, t7, rfl, Tx7, Kc7, M7⟩ := q7
      show Wp p e below _ (T.setTop (mkF m 114 #[.val (.int x), .val (.int y), .val (.int z), .val (.int w), .val (.int la), .val (.int lb), .val (.int a0), .val (.int a1), .val (.int a2), .val (.int b0), .val (.int b1), .val (.int b2), .val (.ref p6), .unset, .unset, .unset] [(.ref p7)]))
      refine w_astore X #[.val (.int x), .val (.int y), .val (.int z), .val (.int w), .val (.int la), .val (.int lb), .val (.int a0), .val (.int a1), .val (.int a2), .val (.int b0), .val (.int b1), .val (.int b2), .val (.ref p6), .val (.ref p7), .unset, .unset] d_114 (rfl) rfl ?_
      refine w_aload X d_116 rfl (rfl) ?_
      refine w_aload X d_118 rfl (rfl) ?_
      have f2 := (Tx6.keep Kc7 (List.not_mem_nil) (List.not_mem_nil))
      refine w_callS X d_120 (wd_38 hw) (wd_39 hw) (wd_40 hw) (wd_41 hw) (by decide) (argsL := [(.ref p6), (.ref p7)]) (S := []) (m_cu_0_1 hw hU f2 Tx7 hb0) pd_21 rfl rfl rfl (by decide) (Nat.le_of_ble_eq_true rfl) (by decide) (by decide) (fun T h8 v8 L8 X q8 => ?_)
      obtain ⟨rfl, rfl⟩ := q8
      show Wp p e below _ (T.setTop (mkF m 123 #[.val (.int x), .val (.int y), .val (.int z), .val (.int w), .val (.int la), .val (.int lb), .val (.int a0), .val (.int a1), .val (.int a2), .val (.int b0), .val (.int b1), .val (.int b2), .val (.ref p6), .val (.ref p7), .unset, .unset] [(.int (own_cu [] [b0] (0 : Int32) (1 : Int32)))]))
      refine w_callS X d_123 (wd_60 hw) (wd_61 hw) (wd_3 hw) (wd_62 hw) (by decide) (argsL := [(.int (own_cu [] [b0] (0 : Int32) (1 : Int32)))]) (S := []) (m_sg hw (x0 := (own_cu [] [b0] (0 : Int32) (1 : Int32)))) pd_8 rfl rfl rfl (by decide) (Nat.le_of_ble_eq_true rfl) (by decide) (by decide) (fun T h9 v9 L9 X q9 => ?_)
      obtain ⟨rfl, rfl⟩ := q9
      show Wp p e below _ (T.setTop (mkF m 126 #[.val (.int x), .val (.int y), .val (.int z), .val (.int w), .val (.int la), .val (.int lb), .val (.int a0), .val (.int a1), .val (.int a2), .val (.int b0), .val (.int b1), .val (.int b2), .val (.ref p6), .val (.ref p7), .unset, .unset] [(.int (own_sign (own_cu [] [b0] (0 : Int32) (1 : Int32))))]))
      refine w_istore X #[.val (.int x), .val (.int y), .val (.int z), .val (.int w), .val (.int la), .val (.int lb), .val (.int a0), .val (.int a1), .val (.int a2), .val (.int b0), .val (.int b1), .val (.int b2), .val (.ref p6), .val (.ref p7), .val (.int (own_sign (own_cu [] [b0] (0 : Int32) (1 : Int32)))), .unset] d_126 rfl ?_
      refine w_iload X d_128 rfl ?_
      refine w_iload X d_130 rfl ?_
      refine w_iload X d_132 rfl ?_
      refine w_iload X d_134 rfl ?_
      refine w_iload X d_136 rfl ?_
      refine w_iload X d_138 rfl ?_
      refine w_iload X d_140 rfl ?_
      refine w_iload X d_142 rfl ?_
      refine w_callS X d_144 (wd_63 hw) (wd_64 hw) (wd_3 hw) (wd_65 hw) (by decide) (argsL := [(.int la), (.int a0), (.int a1), (.int a2), (.int lb), (.int b0), (.int b1), (.int b2)]) (S := []) (m_ref hw (la := la) (e0 := a0) (e1 := a1) (e2 := a2) (lb := lb) (f0 := b0) (f1 := b1) (f2 := b2)) pd_22 rfl rfl rfl (by decide) (Nat.le_of_ble_eq_true rfl) (by decide) (by decide) (fun T h10 v10 L10 X q10 => ?_)
      obtain ⟨rfl, rfl⟩ := q10
      show Wp p e below _ (T.setTop (mkF m 147 #[.val (.int x), .val (.int y), .val (.int z), .val (.int w), .val (.int la), .val (.int lb), .val (.int a0), .val (.int a1), .val (.int a2), .val (.int b0), .val (.int b1), .val (.int b2), .val (.ref p6), .val (.ref p7), .val (.int (own_sign (own_cu [] [b0] (0 : Int32) (1 : Int32)))), .unset] [(.int (own_ref la a0 a1 a2 lb b0 b1 b2))]))
      refine w_istore X #[.val (.int x), .val (.int y), .val (.int z), .val (.int w), .val (.int la), .val (.int lb), .val (.int a0), .val (.int a1), .val (.int a2), .val (.int b0), .val (.int b1), .val (.int b2), .val (.ref p6), .val (.ref p7), .val (.int (own_sign (own_cu [] [b0] (0 : Int32) (1 : Int32)))), .val (.int (own_ref la a0 a1 a2 lb b0 b1 b2))] d_147 rfl ?_
      refine w_iload X d_149 rfl ?_
      refine w_iload X d_151 rfl ?_
      refine w_icmpne X d_153 (fun hc => absurd (by rw [hla, hlb]; exact own_fin_0_1 ha0 ha1 ha2 hb0 hb1 hb2) hc) (fun _ => ?_)
      refine w_iconst X (1 : Int32) d_156 rfl ?_
      refine w_goto X d_157 ?_
      exact v_ret_boolean X Y (1 : Int32) (by decide) d_161 rfl (by decide) (by decide)
    · refine w_iload X d_90 rfl ?_
      refine w_iload X d_92 rfl ?_
      refine w_iload X d_94 rfl ?_
      refine w_iload X d_96 rfl ?_
      refine g_callS X Y (fun vm' hW => (show Em Z Z.heap s.vm from Or.inl I0).warm hW) d_98 (wd_1 hw) (wd_2 hw) (wd_3 hw) (wd_4 hw) (by decide) (argsL := [(.int la), (.int a0), (.int a1), (.int a2)]) (S := []) (m_str_0 hw hU hheld hcw hla ha0 ha1 ha2) pd_20 rfl rfl rfl (by decide) (Nat.le_of_ble_eq_true rfl) (by decide) (by decide) (fun T h11 v11 L11 u kk X Y q11 => ?_)
      obtain ⟨p11, t11, rfl, Tx11, Kc11, M11⟩ := q11
      show Wp p e below _ (T.setTop (mkF m 101 #[.val (.int x), .val (.int y), .val (.int z), .val (.int w), .val (.int la), .val (.int lb), .val (.int a0), .val (.int a1), .val (.int a2), .val (.int b0), .val (.int b1), .val (.int b2), .unset, .unset, .unset, .unset] [(.ref p11)]))
      refine w_astore X #[.val (.int x), .val (.int y), .val (.int z), .val (.int w), .val (.int la), .val (.int lb), .val (.int a0), .val (.int a1), .val (.int a2), .val (.int b0), .val (.int b1), .val (.int b2), .val (.ref p11), .unset, .unset, .unset] d_101 (rfl) rfl ?_
      refine w_iload X d_103 rfl ?_
      refine w_iload X d_105 rfl ?_
      refine w_iload X d_107 rfl ?_
      refine w_iload X d_109 rfl ?_
      refine g_callS X Y (fun vm' hW => M11.warm hW) d_111 (wd_1 hw) (wd_2 hw) (wd_3 hw) (wd_4 hw) (by decide) (argsL := [(.int lb), (.int b0), (.int b1), (.int b2)]) (S := []) (m_str_2 hw hU hheld hcw hlb hb0 hb1 hb2) pd_20 rfl rfl rfl (by decide) (Nat.le_of_ble_eq_true rfl) (by decide) (by decide) (fun T h12 v12 L12 u kk X Y q12 => ?_)
      obtain ⟨p12, t12, rfl, Tx12, Kc12, M12⟩ := q12
      show Wp p e below _ (T.setTop (mkF m 114 #[.val (.int x), .val (.int y), .val (.int z), .val (.int w), .val (.int la), .val (.int lb), .val (.int a0), .val (.int a1), .val (.int a2), .val (.int b0), .val (.int b1), .val (.int b2), .val (.ref p11), .unset, .unset, .unset] [(.ref p12)]))
      refine w_astore X #[.val (.int x), .val (.int y), .val (.int z), .val (.int w), .val (.int la), .val (.int lb), .val (.int a0), .val (.int a1), .val (.int a2), .val (.int b0), .val (.int b1), .val (.int b2), .val (.ref p11), .val (.ref p12), .unset, .unset] d_114 (rfl) rfl ?_
      refine w_aload X d_116 rfl (rfl) ?_
      refine w_aload X d_118 rfl (rfl) ?_
      have f3 := (Tx11.keep Kc12 (List.not_mem_nil) (List.not_mem_nil))
      refine w_callS X d_120 (wd_38 hw) (wd_39 hw) (wd_40 hw) (wd_41 hw) (by decide) (argsL := [(.ref p11), (.ref p12)]) (S := []) (m_cu_0_2 hw hU f3 Tx12 hb0 hb1) pd_21 rfl rfl rfl (by decide) (Nat.le_of_ble_eq_true rfl) (by decide) (by decide) (fun T h13 v13 L13 X q13 => ?_)
      obtain ⟨rfl, rfl⟩ := q13
      show Wp p e below _ (T.setTop (mkF m 123 #[.val (.int x), .val (.int y), .val (.int z), .val (.int w), .val (.int la), .val (.int lb), .val (.int a0), .val (.int a1), .val (.int a2), .val (.int b0), .val (.int b1), .val (.int b2), .val (.ref p11), .val (.ref p12), .unset, .unset] [(.int (own_cu [] [b0, b1] (0 : Int32) (2 : Int32)))]))
      refine w_callS X d_123 (wd_60 hw) (wd_61 hw) (wd_3 hw) (wd_62 hw) (by decide) (argsL := [(.int (own_cu [] [b0, b1] (0 : Int32) (2 : Int32)))]) (S := []) (m_sg hw (x0 := (own_cu [] [b0, b1] (0 : Int32) (2 : Int32)))) pd_8 rfl rfl rfl (by decide) (Nat.le_of_ble_eq_true rfl) (by decide) (by decide) (fun T h14 v14 L14 X q14 => ?_)
      obtain ⟨rfl, rfl⟩ := q14
      show Wp p e below _ (T.setTop (mkF m 126 #[.val (.int x), .val (.int y), .val (.int z), .val (.int w), .val (.int la), .val (.int lb), .val (.int a0), .val (.int a1), .val (.int a2), .val (.int b0), .val (.int b1), .val (.int b2), .val (.ref p11), .val (.ref p12), .unset, .unset] [(.int (own_sign (own_cu [] [b0, b1] (0 : Int32) (2 : Int32))))]))
      refine w_istore X #[.val (.int x), .val (.int y), .val (.int z), .val (.int w), .val (.int la), .val (.int lb), .val (.int a0), .val (.int a1), .val (.int a2), .val (.int b0), .val (.int b1), .val (.int b2), .val (.ref p11), .val (.ref p12), .val (.int (own_sign (own_cu [] [b0, b1] (0 : Int32) (2 : Int32)))), .unset] d_126 rfl ?_
      refine w_iload X d_128 rfl ?_
      refine w_iload X d_130 rfl ?_
      refine w_iload X d_132 rfl ?_
      refine w_iload X d_134 rfl ?_
      refine w_iload X d_136 rfl ?_
      refine w_iload X d_138 rfl ?_
      refine w_iload X d_140 rfl ?_
      refine w_iload X d_142 rfl ?_
      refine w_callS X d_144 (wd_63 hw) (wd_64 hw) (wd_3 hw) (wd_65 hw) (by decide) (argsL := [(.int la), (.int a0), (.int a1), (.int a2), (.int lb), (.int b0), (.int b1), (.int b2)]) (S := []) (m_ref hw (la := la) (e0 := a0) (e1 := a1) (e2 := a2) (lb := lb) (f0 := b0) (f1 := b1) (f2 := b2)) pd_22 rfl rfl rfl (by decide) (Nat.le_of_ble_eq_true rfl) (by decide) (by decide) (fun T h15 v15 L15 X q15 => ?_)
      obtain ⟨rfl, rfl⟩ := q15
      show Wp p e below _ (T.setTop (mkF m 147 #[.val (.int x), .val (.int y), .val (.int z), .val (.int w), .val (.int la), .val (.int lb), .val (.int a0), .val (.int a1), .val (.int a2), .val (.int b0), .val (.int b1), .val (.int b2), .val (.ref p11), .val (.ref p12), .val (.int (own_sign (own_cu [] [b0, b1] (0 : Int32) (2 : Int32)))), .unset] [(.int (own_ref la a0 a1 a2 lb b0 b1 b2))]))
      refine w_istore X #[.val (.int x), .val (.int y), .val (.int z), .val (.int w), .val (.int la), .val (.int lb), .val (.int a0), .val (.int a1), .val (.int a2), .val (.int b0), .val (.int b1), .val (.int b2), .val (.ref p11), .val (.ref p12), .val (.int (own_sign (own_cu [] [b0, b1] (0 : Int32) (2 : Int32)))), .val (.int (own_ref la a0 a1 a2 lb b0 b1 b2))] d_147 rfl ?_
      refine w_iload X d_149 rfl ?_
      refine w_iload X d_151 rfl ?_
      refine w_icmpne X d_153 (fun hc => absurd (by rw [hla, hlb]; exact own_fin_0_2 ha0 ha1 ha2 hb0 hb1 hb2) hc) (fun _ => ?_)
      refine w_iconst X (1 : Int32) d_156 rfl ?_
      refine w_goto X d_157 ?_
      exact v_ret_boolean X Y (1 : Int32) (by decide) d_161 rfl (by decide) (by decide)
    · refine w_iload X d_90 rfl ?_
      refine w_iload X d_92 rfl ?_
      refine w_iload X d_94 rfl ?_
      refine w_iload X d_96 rfl ?_
      refine g_callS X Y (fun vm' hW => (show Em Z Z.heap s.vm from Or.inl I0).warm hW) d_98 (wd_1 hw) (wd_2 hw) (wd_3 hw) (wd_4 hw) (by decide) (argsL := [(.int la), (.int a0), (.int a1), (.int a2)]) (S := []) (m_str_0 hw hU hheld hcw hla ha0 ha1 ha2) pd_20 rfl rfl rfl (by decide) (Nat.le_of_ble_eq_true rfl) (by decide) (by decide) (fun T h16 v16 L16 u kk X Y q16 => ?_)
      obtain ⟨p16, t16, rfl, Tx16, Kc16, M16⟩ := q16
      show Wp p e below _ (T.setTop (mkF m 101 #[.val (.int x), .val (.int y), .val (.int z), .val (.int w), .val (.int la), .val (.int lb), .val (.int a0), .val (.int a1), .val (.int a2), .val (.int b0), .val (.int b1), .val (.int b2), .unset, .unset, .unset, .unset] [(.ref p16)]))
      refine w_astore X #[.val (.int x), .val (.int y), .val (.int z), .val (.int w), .val (.int la), .val (.int lb), .val (.int a0), .val (.int a1), .val (.int a2), .val (.int b0), .val (.int b1), .val (.int b2), .val (.ref p16), .unset, .unset, .unset] d_101 (rfl) rfl ?_
      refine w_iload X d_103 rfl ?_
      refine w_iload X d_105 rfl ?_
      refine w_iload X d_107 rfl ?_
      refine w_iload X d_109 rfl ?_
      refine g_callS X Y (fun vm' hW => M16.warm hW) d_111 (wd_1 hw) (wd_2 hw) (wd_3 hw) (wd_4 hw) (by decide) (argsL := [(.int lb), (.int b0), (.int b1), (.int b2)]) (S := []) (m_str_3 hw hU hheld hcw hlb hb0 hb1 hb2) pd_20 rfl rfl rfl (by decide) (Nat.le_of_ble_eq_true rfl) (by decide) (by decide) (fun T h17 v17 L17 u kk X Y q17 => ?_)
      obtain ⟨p17, t17, rfl, Tx17, Kc17, M17⟩ := q17
      show Wp p e below _ (T.setTop (mkF m 114 #[.val (.int x), .val (.int y), .val (.int z), .val (.int w), .val (.int la), .val (.int lb), .val (.int a0), .val (.int a1), .val (.int a2), .val (.int b0), .val (.int b1), .val (.int b2), .val (.ref p16), .unset, .unset, .unset] [(.ref p17)]))
      refine w_astore X #[.val (.int x), .val (.int y), .val (.int z), .val (.int w), .val (.int la), .val (.int lb), .val (.int a0), .val (.int a1), .val (.int a2), .val (.int b0), .val (.int b1), .val (.int b2), .val (.ref p16), .val (.ref p17), .unset, .unset] d_114 (rfl) rfl ?_
      refine w_aload X d_116 rfl (rfl) ?_
      refine w_aload X d_118 rfl (rfl) ?_
      have f4 := (Tx16.keep Kc17 (List.not_mem_nil) (List.not_mem_nil))
      refine w_callS X d_120 (wd_38 hw) (wd_39 hw) (wd_40 hw) (wd_41 hw) (by decide) (argsL := [(.ref p16), (.ref p17)]) (S := []) (m_cu_0_3 hw hU f4 Tx17 hb0 hb1 hb2) pd_21 rfl rfl rfl (by decide) (Nat.le_of_ble_eq_true rfl) (by decide) (by decide) (fun T h18 v18 L18 X q18 => ?_)
      obtain ⟨rfl, rfl⟩ := q18
      show Wp p e below _ (T.setTop (mkF m 123 #[.val (.int x), .val (.int y), .val (.int z), .val (.int w), .val (.int la), .val (.int lb), .val (.int a0), .val (.int a1), .val (.int a2), .val (.int b0), .val (.int b1), .val (.int b2), .val (.ref p16), .val (.ref p17), .unset, .unset] [(.int (own_cu [] [b0, b1, b2] (0 : Int32) (3 : Int32)))]))
      refine w_callS X d_123 (wd_60 hw) (wd_61 hw) (wd_3 hw) (wd_62 hw) (by decide) (argsL := [(.int (own_cu [] [b0, b1, b2] (0 : Int32) (3 : Int32)))]) (S := []) (m_sg hw (x0 := (own_cu [] [b0, b1, b2] (0 : Int32) (3 : Int32)))) pd_8 rfl rfl rfl (by decide) (Nat.le_of_ble_eq_true rfl) (by decide) (by decide) (fun T h19 v19 L19 X q19 => ?_)
      obtain ⟨rfl, rfl⟩ := q19
      show Wp p e below _ (T.setTop (mkF m 126 #[.val (.int x), .val (.int y), .val (.int z), .val (.int w), .val (.int la), .val (.int lb), .val (.int a0), .val (.int a1), .val (.int a2), .val (.int b0), .val (.int b1), .val (.int b2), .val (.ref p16), .val (.ref p17), .unset, .unset] [(.int (own_sign (own_cu [] [b0, b1, b2] (0 : Int32) (3 : Int32))))]))
      refine w_istore X #[.val (.int x), .val (.int y), .val (.int z), .val (.int w), .val (.int la), .val (.int lb), .val (.int a0), .val (.int a1), .val (.int a2), .val (.int b0), .val (.int b1), .val (.int b2), .val (.ref p16), .val (.ref p17), .val (.int (own_sign (own_cu [] [b0, b1, b2] (0 : Int32) (3 : Int32)))), .unset] d_126 rfl ?_
      refine w_iload X d_128 rfl ?_
      refine w_iload X d_130 rfl ?_
      refine w_iload X d_132 rfl ?_
      refine w_iload X d_134 rfl ?_
      refine w_iload X d_136 rfl ?_
      refine w_iload X d_138 rfl ?_
      refine w_iload X d_140 rfl ?_
      refine w_iload X d_142 rfl ?_
      refine w_callS X d_144 (wd_63 hw) (wd_64 hw) (wd_3 hw) (wd_65 hw) (by decide) (argsL := [(.int la), (.int a0), (.int a1), (.int a2), (.int lb), (.int b0), (.int b1), (.int b2)]) (S := []) (m_ref hw (la := la) (e0 := a0) (e1 := a1) (e2 := a2) (lb := lb) (f0 := b0) (f1 := b1) (f2 := b2)) pd_22 rfl rfl rfl (by decide) (Nat.le_of_ble_eq_true rfl) (by decide) (by decide) (fun T h20 v20 L20 X q20 => ?_)
      obtain ⟨rfl, rfl⟩ := q20
      show Wp p e below _ (T.setTop (mkF m 147 #[.val (.int x), .val (.int y), .val (.int z), .val (.int w), .val (.int la), .val (.int lb), .val (.int a0), .val (.int a1), .val (.int a2), .val (.int b0), .val (.int b1), .val (.int b2), .val (.ref p16), .val (.ref p17), .val (.int (own_sign (own_cu [] [b0, b1, b2] (0 : Int32) (3 : Int32)))), .unset] [(.int (own_ref la a0 a1 a2 lb b0 b1 b2))]))
      refine w_istore X #[.val (.int x), .val (.int y), .val (.int z), .val (.int w), .val (.int la), .val (.int lb), .val (.int a0), .val (.int a1), .val (.int a2), .val (.int b0), .val (.int b1), .val (.int b2), .val (.ref p16), .val (.ref p17), .val (.int (own_sign (own_cu [] [b0, b1, b2] (0 : Int32) (3 : Int32)))), .val (.int (own_ref la a0 a1 a2 lb b0 b1 b2))] d_147 rfl ?_
      refine w_iload X d_149 rfl ?_
      refine w_iload X d_151 rfl ?_
      refine w_icmpne X d_153 (fun hc => absurd (by rw [hla, hlb]; exact own_fin_0_3 ha0 ha1 ha2 hb0 hb1 hb2) hc) (fun _ => ?_)
      refine w_iconst X (1 : Int32) d_156 rfl ?_
      refine w_goto X d_157 ?_
      exact v_ret_boolean X Y (1 : Int32) (by decide) d_161 rfl (by decide) (by decide)
  · rcases hlb with hlb | hlb | hlb | hlb
    · refine w_iload X d_90 rfl ?_
      refine w_iload X d_92 rfl ?_
      refine w_iload X d_94 rfl ?_
      refine w_iload X d_96 rfl ?_
      refine g_callS X Y (fun vm' hW => (show Em Z Z.heap s.vm from Or.inl I0).warm hW) d_98 (wd_1 hw) (wd_2 hw) (wd_3 hw) (wd_4 hw) (by decide) (argsL := [(.int la), (.int a0), (.int a1), (.int a2)]) (S := []) (m_str_1 hw hU hheld hcw hla ha0 ha1 ha2) pd_20 rfl rfl rfl (by decide) (Nat.le_of_ble_eq_true rfl) (by decide) (by decide) (fun T h21 v21 L21 u kk X Y q21 => ?_)
      obtain ⟨p21, t21, rfl, Tx21, Kc21, M21⟩ := q21
      show Wp p e below _ (T.setTop (mkF m 101 #[.val (.int x), .val (.int y), .val (.int z), .val (.int w), .val (.int la), .val (.int lb), .val (.int a0), .val (.int a1), .val (.int a2), .val (.int b0), .val (.int b1), .val (.int b2), .unset, .unset, .unset, .unset] [(.ref p21)]))
      refine w_astore X #[.val (.int x), .val (.int y), .val (.int z), .val (.int w), .val (.int la), .val (.int lb), .val (.int a0), .val (.int a1), .val (.int a2), .val (.int b0), .val (.int b1), .val (.int b2), .val (.ref p21), .unset, .unset, .unset] d_101 (rfl) rfl ?_
      refine w_iload X d_103 rfl ?_
      refine w_iload X d_105 rfl ?_
      refine w_iload X d_107 rfl ?_
      refine w_iload X d_109 rfl ?_
      refine g_callS X Y (fun vm' hW => M21.warm hW) d_111 (wd_1 hw) (wd_2 hw) (wd_3 hw) (wd_4 hw) (by decide) (argsL := [(.int lb), (.int b0), (.int b1), (.int b2)]) (S := []) (m_str_0 hw hU hheld hcw hlb hb0 hb1 hb2) pd_20 rfl rfl rfl (by decide) (Nat.le_of_ble_eq_true rfl) (by decide) (by decide) (fun T h22 v22 L22 u kk X Y q22 => ?_)
      obtain ⟨p22, t22, rfl, Tx22, Kc22, M22⟩ := q22
      show Wp p e below _ (T.setTop (mkF m 114 #[.val (.int x), .val (.int y), .val (.int z), .val (.int w), .val (.int la), .val (.int lb), .val (.int a0), .val (.int a1), .val (.int a2), .val (.int b0), .val (.int b1), .val (.int b2), .val (.ref p21), .unset, .unset, .unset] [(.ref p22)]))
      refine w_astore X #[.val (.int x), .val (.int y), .val (.int z), .val (.int w), .val (.int la), .val (.int lb), .val (.int a0), .val (.int a1), .val (.int a2), .val (.int b0), .val (.int b1), .val (.int b2), .val (.ref p21), .val (.ref p22), .unset, .unset] d_114 (rfl) rfl ?_
      refine w_aload X d_116 rfl (rfl) ?_
      refine w_aload X d_118 rfl (rfl) ?_
      have f5 := (Tx21.keep Kc22 (List.not_mem_nil) (List.not_mem_nil))
      refine w_callS X d_120 (wd_38 hw) (wd_39 hw) (wd_40 hw) (wd_41 hw) (by decide) (argsL := [(.ref p21), (.ref p22)]) (S := []) (m_cu_1_0 hw hU f5 Tx22 ha0) pd_21 rfl rfl rfl (by decide) (Nat.le_of_ble_eq_true rfl) (by decide) (by decide) (fun T h23 v23 L23 X q23 => ?_)
      obtain ⟨rfl, rfl⟩ := q23
      show Wp p e below _ (T.setTop (mkF m 123 #[.val (.int x), .val (.int y), .val (.int z), .val (.int w), .val (.int la), .val (.int lb), .val (.int a0), .val (.int a1), .val (.int a2), .val (.int b0), .val (.int b1), .val (.int b2), .val (.ref p21), .val (.ref p22), .unset, .unset] [(.int (own_cu [a0] [] (1 : Int32) (0 : Int32)))]))
      refine w_callS X d_123 (wd_60 hw) (wd_61 hw) (wd_3 hw) (wd_62 hw) (by decide) (argsL := [(.int (own_cu [a0] [] (1 : Int32) (0 : Int32)))]) (S := []) (m_sg hw (x0 := (own_cu [a0] [] (1 : Int32) (0 : Int32)))) pd_8 rfl rfl rfl (by decide) (Nat.le_of_ble_eq_true rfl) (by decide) (by decide) (fun T h24 v24 L24 X q24 => ?_)
      obtain ⟨rfl, rfl⟩ := q24
      show Wp p e below _ (T.setTop (mkF m 126 #[.val (.int x), .val (.int y), .val (.int z), .val (.int w), .val (.int la), .val (.int lb), .val (.int a0), .val (.int a1), .val (.int a2), .val (.int b0), .val (.int b1), .val (.int b2), .val (.ref p21), .val (.ref p22), .unset, .unset] [(.int (own_sign (own_cu [a0] [] (1 : Int32) (0 : Int32))))]))
      refine w_istore X #[.val (.int x), .val (.int y), .val (.int z), .val (.int w), .val (.int la), .val (.int lb), .val (.int a0), .val (.int a1), .val (.int a2), .val (.int b0), .val (.int b1), .val (.int b2), .val (.ref p21), .val (.ref p22), .val (.int (own_sign (own_cu [a0] [] (1 : Int32) (0 : Int32)))), .unset] d_126 rfl ?_
      refine w_iload X d_128 rfl ?_
      refine w_iload X d_130 rfl ?_
      refine w_iload X d_132 rfl ?_
      refine w_iload X d_134 rfl ?_
      refine w_iload X d_136 rfl ?_
      refine w_iload X d_138 rfl ?_
      refine w_iload X d_140 rfl ?_
      refine w_iload X d_142 rfl ?_
      refine w_callS X d_144 (wd_63 hw) (wd_64 hw) (wd_3 hw) (wd_65 hw) (by decide) (argsL := [(.int la), (.int a0), (.int a1), (.int a2), (.int lb), (.int b0), (.int b1), (.int b2)]) (S := []) (m_ref hw (la := la) (e0 := a0) (e1 := a1) (e2 := a2) (lb := lb) (f0 := b0) (f1 := b1) (f2 := b2)) pd_22 rfl rfl rfl (by decide) (Nat.le_of_ble_eq_true rfl) (by decide) (by decide) (fun T h25 v25 L25 X q25 => ?_)
      obtain ⟨rfl, rfl⟩ := q25
      show Wp p e below _ (T.setTop (mkF m 147 #[.val (.int x), .val (.int y), .val (.int z), .val (.int w), .val (.int la), .val (.int lb), .val (.int a0), .val (.int a1), .val (.int a2), .val (.int b0), .val (.int b1), .val (.int b2), .val (.ref p21), .val (.ref p22), .val (.int (own_sign (own_cu [a0] [] (1 : Int32) (0 : Int32)))), .unset] [(.int (own_ref la a0 a1 a2 lb b0 b1 b2))]))
      refine w_istore X #[.val (.int x), .val (.int y), .val (.int z), .val (.int w), .val (.int la), .val (.int lb), .val (.int a0), .val (.int a1), .val (.int a2), .val (.int b0), .val (.int b1), .val (.int b2), .val (.ref p21), .val (.ref p22), .val (.int (own_sign (own_cu [a0] [] (1 : Int32) (0 : Int32)))), .val (.int (own_ref la a0 a1 a2 lb b0 b1 b2))] d_147 rfl ?_
      refine w_iload X d_149 rfl ?_
      refine w_iload X d_151 rfl ?_
      refine w_icmpne X d_153 (fun hc => absurd (by rw [hla, hlb]; exact own_fin_1_0 ha0 ha1 ha2 hb0 hb1 hb2) hc) (fun _ => ?_)
      refine w_iconst X (1 : Int32) d_156 rfl ?_
      refine w_goto X d_157 ?_
      exact v_ret_boolean X Y (1 : Int32) (by decide) d_161 rfl (by decide) (by decide)
    · refine w_iload X d_90 rfl ?_
      refine w_iload X d_92 rfl ?_
      refine w_iload X d_94 rfl ?_
      refine w_iload X d_96 rfl ?_
      refine g_callS X Y (fun vm' hW => (show Em Z Z.heap s.vm from Or.inl I0).warm hW) d_98 (wd_1 hw) (wd_2 hw) (wd_3 hw) (wd_4 hw) (by decide) (argsL := [(.int la), (.int a0), (.int a1), (.int a2)]) (S := []) (m_str_1 hw hU hheld hcw hla ha0 ha1 ha2) pd_20 rfl rfl rfl (by decide) (Nat.le_of_ble_eq_true rfl) (by decide) (by decide) (fun T h26 v26 L26 u kk X Y q26 => ?_)
      obtain ⟨p26, t26, rfl, Tx26, Kc26, M26⟩ := q26
      show Wp p e below _ (T.setTop (mkF m 101 #[.val (.int x), .val (.int y), .val (.int z), .val (.int w), .val (.int la), .val (.int lb), .val (.int a0), .val (.int a1), .val (.int a2), .val (.int b0), .val (.int b1), .val (.int b2), .unset, .unset, .unset, .unset] [(.ref p26)]))
      refine w_astore X #[.val (.int x), .val (.int y), .val (.int z), .val (.int w), .val (.int la), .val (.int lb), .val (.int a0), .val (.int a1), .val (.int a2), .val (.int b0), .val (.int b1), .val (.int b2), .val (.ref p26), .unset, .unset, .unset] d_101 (rfl) rfl ?_
      refine w_iload X d_103 rfl ?_
      refine w_iload X d_105 rfl ?_
      refine w_iload X d_107 rfl ?_
      refine w_iload X d_109 rfl ?_
      refine g_callS X Y (fun vm' hW => M26.warm hW) d_111 (wd_1 hw) (wd_2 hw) (wd_3 hw) (wd_4 hw) (by decide) (argsL := [(.int lb), (.int b0), (.int b1), (.int b2)]) (S := []) (m_str_1 hw hU hheld hcw hlb hb0 hb1 hb2) pd_20 rfl rfl rfl (by decide) (Nat.le_of_ble_eq_true rfl) (by decide) (by decide) (fun T h27 v27 L27 u kk X Y q27 => ?_)
      obtain ⟨p27, t27, rfl, Tx27, Kc27, M27⟩ := q27
      show Wp p e below _ (T.setTop (mkF m 114 #[.val (.int x), .val (.int y), .val (.int z), .val (.int w), .val (.int la), .val (.int lb), .val (.int a0), .val (.int a1), .val (.int a2), .val (.int b0), .val (.int b1), .val (.int b2), .val (.ref p26), .unset, .unset, .unset] [(.ref p27)]))
      refine w_astore X #[.val (.int x), .val (.int y), .val (.int z), .val (.int w), .val (.int la), .val (.int lb), .val (.int a0), .val (.int a1), .val (.int a2), .val (.int b0), .val (.int b1), .val (.int b2), .val (.ref p26), .val (.ref p27), .unset, .unset] d_114 (rfl) rfl ?_
      refine w_aload X d_116 rfl (rfl) ?_
      refine w_aload X d_118 rfl (rfl) ?_
      have f6 := (Tx26.keep Kc27 (List.not_mem_nil) (List.not_mem_nil))
      refine w_callS X d_120 (wd_38 hw) (wd_39 hw) (wd_40 hw) (wd_41 hw) (by decide) (argsL := [(.ref p26), (.ref p27)]) (S := []) (m_cu_1_1 hw hU f6 Tx27 ha0 hb0) pd_21 rfl rfl rfl (by decide) (Nat.le_of_ble_eq_true rfl) (by decide) (by decide) (fun T h28 v28 L28 X q28 => ?_)
      obtain ⟨rfl, rfl⟩ := q28
      show Wp p e below _ (T.setTop (mkF m 123 #[.val (.int x), .val (.int y), .val (.int z), .val (.int w), .val (.int la), .val (.int lb), .val (.int a0), .val (.int a1), .val (.int a2), .val (.int b0), .val (.int b1), .val (.int b2), .val (.ref p26), .val (.ref p27), .unset, .unset] [(.int (own_cu [a0] [b0] (1 : Int32) (1 : Int32)))]))
      refine w_callS X d_123 (wd_60 hw) (wd_61 hw) (wd_3 hw) (wd_62 hw) (by decide) (argsL := [(.int (own_cu [a0] [b0] (1 : Int32) (1 : Int32)))]) (S := []) (m_sg hw (x0 := (own_cu [a0] [b0] (1 : Int32) (1 : Int32)))) pd_8 rfl rfl rfl (by decide) (Nat.le_of_ble_eq_true rfl) (by decide) (by decide) (fun T h29 v29 L29 X q29 => ?_)
      obtain ⟨rfl, rfl⟩ := q29
      show Wp p e below _ (T.setTop (mkF m 126 #[.val (.int x), .val (.int y), .val (.int z), .val (.int w), .val (.int la), .val (.int lb), .val (.int a0), .val (.int a1), .val (.int a2), .val (.int b0), .val (.int b1), .val (.int b2), .val (.ref p26), .val (.ref p27), .unset, .unset] [(.int (own_sign (own_cu [a0] [b0] (1 : Int32) (1 : Int32))))]))
      refine w_istore X #[.val (.int x), .val (.int y), .val (.int z), .val (.int w), .val (.int la), .val (.int lb), .val (.int a0), .val (.int a1), .val (.int a2), .val (.int b0), .val (.int b1), .val (.int b2), .val (.ref p26), .val (.ref p27), .val (.int (own_sign (own_cu [a0] [b0] (1 : Int32) (1 : Int32)))), .unset] d_126 rfl ?_
      refine w_iload X d_128 rfl ?_
      refine w_iload X d_130 rfl ?_
      refine w_iload X d_132 rfl ?_
      refine w_iload X d_134 rfl ?_
      refine w_iload X d_136 rfl ?_
      refine w_iload X d_138 rfl ?_
      refine w_iload X d_140 rfl ?_
      refine w_iload X d_142 rfl ?_
      refine w_callS X d_144 (wd_63 hw) (wd_64 hw) (wd_3 hw) (wd_65 hw) (by decide) (argsL := [(.int la), (.int a0), (.int a1), (.int a2), (.int lb), (.int b0), (.int b1), (.int b2)]) (S := []) (m_ref hw (la := la) (e0 := a0) (e1 := a1) (e2 := a2) (lb := lb) (f0 := b0) (f1 := b1) (f2 := b2)) pd_22 rfl rfl rfl (by decide) (Nat.le_of_ble_eq_true rfl) (by decide) (by decide) (fun T h30 v30 L30 X q30 => ?_)
      obtain ⟨rfl, rfl⟩ := q30
      show Wp p e below _ (T.setTop (mkF m 147 #[.val (.int x), .val (.int y), .val (.int z), .val (.int w), .val (.int la), .val (.int lb), .val (.int a0), .val (.int a1), .val (.int a2), .val (.int b0), .val (.int b1), .val (.int b2), .val (.ref p26), .val (.ref p27), .val (.int (own_sign (own_cu [a0] [b0] (1 : Int32) (1 : Int32)))), .unset] [(.int (own_ref la a0 a1 a2 lb b0 b1 b2))]))
      refine w_istore X #[.val (.int x), .val (.int y), .val (.int z), .val (.int w), .val (.int la), .val (.int lb), .val (.int a0), .val (.int a1), .val (.int a2), .val (.int b0), .val (.int b1), .val (.int b2), .val (.ref p26), .val (.ref p27), .val (.int (own_sign (own_cu [a0] [b0] (1 : Int32) (1 : Int32)))), .val (.int (own_ref la a0 a1 a2 lb b0 b1 b2))] d_147 rfl ?_
      refine w_iload X d_149 rfl ?_
      refine w_iload X d_151 rfl ?_
      refine w_icmpne X d_153 (fun hc => absurd (by rw [hla, hlb]; exact own_fin_1_1 ha0 ha1 ha2 hb0 hb1 hb2) hc) (fun _ => ?_)
      refine w_iconst X (1 : Int32) d_156 rfl ?_
      refine w_goto X d_157 ?_
      exact v_ret_boolean X Y (1 : Int32) (by decide) d_161 rfl (by decide) (by decide)
    · refine w_iload X d_90 rfl ?_
      refine w_iload X d_92 rfl ?_
      refine w_iload X d_94 rfl ?_
      refine w_iload X d_96 rfl ?_
      refine g_callS X Y (fun vm' hW => (show Em Z Z.heap s.vm from Or.inl I0).warm hW) d_98 (wd_1 hw) (wd_2 hw) (wd_3 hw) (wd_4 hw) (by decide) (argsL := [(.int la), (.int a0), (.int a1), (.int a2)]) (S := []) (m_str_1 hw hU hheld hcw hla ha0 ha1 ha2) pd_20 rfl rfl rfl (by decide) (Nat.le_of_ble_eq_true rfl) (by decide) (by decide) (fun T h31 v31 L31 u kk X Y q31 => ?_)
      obtain ⟨p31, t31, rfl, Tx31, Kc31, M31⟩ := q31
      show Wp p e below _ (T.setTop (mkF m 101 #[.val (.int x), .val (.int y), .val (.int z), .val (.int w), .val (.int la), .val (.int lb), .val (.int a0), .val (.int a1), .val (.int a2), .val (.int b0), .val (.int b1), .val (.int b2), .unset, .unset, .unset, .unset] [(.ref p31)]))
      refine w_astore X #[.val (.int x), .val (.int y), .val (.int z), .val (.int w), .val (.int la), .val (.int lb), .val (.int a0), .val (.int a1), .val (.int a2), .val (.int b0), .val (.int b1), .val (.int b2), .val (.ref p31), .unset, .unset, .unset] d_101 (rfl) rfl ?_
      refine w_iload X d_103 rfl ?_
      refine w_iload X d_105 rfl ?_
      refine w_iload X d_107 rfl ?_
      refine w_iload X d_109 rfl ?_
      refine g_callS X Y (fun vm' hW => M31.warm hW) d_111 (wd_1 hw) (wd_2 hw) (wd_3 hw) (wd_4 hw) (by decide) (argsL := [(.int lb), (.int b0), (.int b1), (.int b2)]) (S := []) (m_str_2 hw hU hheld hcw hlb hb0 hb1 hb2) pd_20 rfl rfl rfl (by decide) (Nat.le_of_ble_eq_true rfl) (by decide) (by decide) (fun T h32 v32 L32 u kk X Y q32 => ?_)
      obtain ⟨p32, t32, rfl, Tx32, Kc32, M32⟩ := q32
      show Wp p e below _ (T.setTop (mkF m 114 #[.val (.int x), .val (.int y), .val (.int z), .val (.int w), .val (.int la), .val (.int lb), .val (.int a0), .val (.int a1), .val (.int a2), .val (.int b0), .val (.int b1), .val (.int b2), .val (.ref p31), .unset, .unset, .unset] [(.ref p32)]))
      refine w_astore X #[.val (.int x), .val (.int y), .val (.int z), .val (.int w), .val (.int la), .val (.int lb), .val (.int a0), .val (.int a1), .val (.int a2), .val (.int b0), .val (.int b1), .val (.int b2), .val (.ref p31), .val (.ref p32), .unset, .unset] d_114 (rfl) rfl ?_
      refine w_aload X d_116 rfl (rfl) ?_
      refine w_aload X d_118 rfl (rfl) ?_
      have f7 := (Tx31.keep Kc32 (List.not_mem_nil) (List.not_mem_nil))
      refine w_callS X d_120 (wd_38 hw) (wd_39 hw) (wd_40 hw) (wd_41 hw) (by decide) (argsL := [(.ref p31), (.ref p32)]) (S := []) (m_cu_1_2 hw hU f7 Tx32 ha0 hb0 hb1) pd_21 rfl rfl rfl (by decide) (Nat.le_of_ble_eq_true rfl) (by decide) (by decide) (fun T h33 v33 L33 X q33 => ?_)
      obtain ⟨rfl, rfl⟩ := q33
      show Wp p e below _ (T.setTop (mkF m 123 #[.val (.int x), .val (.int y), .val (.int z), .val (.int w), .val (.int la), .val (.int lb), .val (.int a0), .val (.int a1), .val (.int a2), .val (.int b0), .val (.int b1), .val (.int b2), .val (.ref p31), .val (.ref p32), .unset, .unset] [(.int (own_cu [a0] [b0, b1] (1 : Int32) (2 : Int32)))]))
      refine w_callS X d_123 (wd_60 hw) (wd_61 hw) (wd_3 hw) (wd_62 hw) (by decide) (argsL := [(.int (own_cu [a0] [b0, b1] (1 : Int32) (2 : Int32)))]) (S := []) (m_sg hw (x0 := (own_cu [a0] [b0, b1] (1 : Int32) (2 : Int32)))) pd_8 rfl rfl rfl (by decide) (Nat.le_of_ble_eq_true rfl) (by decide) (by decide) (fun T h34 v34 L34 X q34 => ?_)
      obtain ⟨rfl, rfl⟩ := q34
      show Wp p e below _ (T.setTop (mkF m 126 #[.val (.int x), .val (.int y), .val (.int z), .val (.int w), .val (.int la), .val (.int lb), .val (.int a0), .val (.int a1), .val (.int a2), .val (.int b0), .val (.int b1), .val (.int b2), .val (.ref p31), .val (.ref p32), .unset, .unset] [(.int (own_sign (own_cu [a0] [b0, b1] (1 : Int32) (2 : Int32))))]))
      refine w_istore X #[.val (.int x), .val (.int y), .val (.int z), .val (.int w), .val (.int la), .val (.int lb), .val (.int a0), .val (.int a1), .val (.int a2), .val (.int b0), .val (.int b1), .val (.int b2), .val (.ref p31), .val (.ref p32), .val (.int (own_sign (own_cu [a0] [b0, b1] (1 : Int32) (2 : Int32)))), .unset] d_126 rfl ?_
      refine w_iload X d_128 rfl ?_
      refine w_iload X d_130 rfl ?_
      refine w_iload X d_132 rfl ?_
      refine w_iload X d_134 rfl ?_
      refine w_iload X d_136 rfl ?_
      refine w_iload X d_138 rfl ?_
      refine w_iload X d_140 rfl ?_
      refine w_iload X d_142 rfl ?_
      refine w_callS X d_144 (wd_63 hw) (wd_64 hw) (wd_3 hw) (wd_65 hw) (by decide) (argsL := [(.int la), (.int a0), (.int a1), (.int a2), (.int lb), (.int b0), (.int b1), (.int b2)]) (S := []) (m_ref hw (la := la) (e0 := a0) (e1 := a1) (e2 := a2) (lb := lb) (f0 := b0) (f1 := b1) (f2 := b2)) pd_22 rfl rfl rfl (by decide) (Nat.le_of_ble_eq_true rfl) (by decide) (by decide) (fun T h35 v35 L35 X q35 => ?_)
      obtain ⟨rfl, rfl⟩ := q35
      show Wp p e below _ (T.setTop (mkF m 147 #[.val (.int x), .val (.int y), .val (.int z), .val (.int w), .val (.int la), .val (.int lb), .val (.int a0), .val (.int a1), .val (.int a2), .val (.int b0), .val (.int b1), .val (.int b2), .val (.ref p31), .val (.ref p32), .val (.int (own_sign (own_cu [a0] [b0, b1] (1 : Int32) (2 : Int32)))), .unset] [(.int (own_ref la a0 a1 a2 lb b0 b1 b2))]))
      refine w_istore X #[.val (.int x), .val (.int y), .val (.int z), .val (.int w), .val (.int la), .val (.int lb), .val (.int a0), .val (.int a1), .val (.int a2), .val (.int b0), .val (.int b1), .val (.int b2), .val (.ref p31), .val (.ref p32), .val (.int (own_sign (own_cu [a0] [b0, b1] (1 : Int32) (2 : Int32)))), .val (.int (own_ref la a0 a1 a2 lb b0 b1 b2))] d_147 rfl ?_
      refine w_iload X d_149 rfl ?_
      refine w_iload X d_151 rfl ?_
      refine w_icmpne X d_153 (fun hc => absurd (by rw [hla, hlb]; exact own_fin_1_2 ha0 ha1 ha2 hb0 hb1 hb2) hc) (fun _ => ?_)
      refine w_iconst X (1 : Int32) d_156 rfl ?_
      refine w_goto X d_157 ?_
      exact v_ret_boolean X Y (1 : Int32) (by decide) d_161 rfl (by decide) (by decide)
    · refine w_iload X d_90 rfl ?_
      refine w_iload X d_92 rfl ?_
      refine w_iload X d_94 rfl ?_
      refine w_iload X d_96 rfl ?_
      refine g_callS X Y (fun vm' hW => (show Em Z Z.heap s.vm from Or.inl I0).warm hW) d_98 (wd_1 hw) (wd_2 hw) (wd_3 hw) (wd_4 hw) (by decide) (argsL := [(.int la), (.int a0), (.int a1), (.int a2)]) (S := []) (m_str_1 hw hU hheld hcw hla ha0 ha1 ha2) pd_20 rfl rfl rfl (by decide) (Nat.le_of_ble_eq_true rfl) (by decide) (by decide) (fun T h36 v36 L36 u kk X Y q36 => ?_)
      obtain ⟨p36, t36, rfl, Tx36, Kc36, M36⟩ := q36
      show Wp p e below _ (T.setTop (mkF m 101 #[.val (.int x), .val (.int y), .val (.int z), .val (.int w), .val (.int la), .val (.int lb), .val (.int a0), .val (.int a1), .val (.int a2), .val (.int b0), .val (.int b1), .val (.int b2), .unset, .unset, .unset, .unset] [(.ref p36)]))
      refine w_astore X #[.val (.int x), .val (.int y), .val (.int z), .val (.int w), .val (.int la), .val (.int lb), .val (.int a0), .val (.int a1), .val (.int a2), .val (.int b0), .val (.int b1), .val (.int b2), .val (.ref p36), .unset, .unset, .unset] d_101 (rfl) rfl ?_
      refine w_iload X d_103 rfl ?_
      refine w_iload X d_105 rfl ?_
      refine w_iload X d_107 rfl ?_
      refine w_iload X d_109 rfl ?_
      refine g_callS X Y (fun vm' hW => M36.warm hW) d_111 (wd_1 hw) (wd_2 hw) (wd_3 hw) (wd_4 hw) (by decide) (argsL := [(.int lb), (.int b0), (.int b1), (.int b2)]) (S := []) (m_str_3 hw hU hheld hcw hlb hb0 hb1 hb2) pd_20 rfl rfl rfl (by decide) (Nat.le_of_ble_eq_true rfl) (by decide) (by decide) (fun T h37 v37 L37 u kk X Y q37 => ?_)
      obtain ⟨p37, t37, rfl, Tx37, Kc37, M37⟩ := q37
      show Wp p e below _ (T.setTop (mkF m 114 #[.val (.int x), .val (.int y), .val (.int z), .val (.int w), .val (.int la), .val (.int lb), .val (.int a0), .val (.int a1), .val (.int a2), .val (.int b0), .val (.int b1), .val (.int b2), .val (.ref p36), .unset, .unset, .unset] [(.ref p37)]))
      refine w_astore X #[.val (.int x), .val (.int y), .val (.int z), .val (.int w), .val (.int la), .val (.int lb), .val (.int a0), .val (.int a1), .val (.int a2), .val (.int b0), .val (.int b1), .val (.int b2), .val (.ref p36), .val (.ref p37), .unset, .unset] d_114 (rfl) rfl ?_
      refine w_aload X d_116 rfl (rfl) ?_
      refine w_aload X d_118 rfl (rfl) ?_
      have f8 := (Tx36.keep Kc37 (List.not_mem_nil) (List.not_mem_nil))
      refine w_callS X d_120 (wd_38 hw) (wd_39 hw) (wd_40 hw) (wd_41 hw) (by decide) (argsL := [(.ref p36), (.ref p37)]) (S := []) (m_cu_1_3 hw hU f8 Tx37 ha0 hb0 hb1 hb2) pd_21 rfl rfl rfl (by decide) (Nat.le_of_ble_eq_true rfl) (by decide) (by decide) (fun T h38 v38 L38 X q38 => ?_)
      obtain ⟨rfl, rfl⟩ := q38
      show Wp p e below _ (T.setTop (mkF m 123 #[.val (.int x), .val (.int y), .val (.int z), .val (.int w), .val (.int la), .val (.int lb), .val (.int a0), .val (.int a1), .val (.int a2), .val (.int b0), .val (.int b1), .val (.int b2), .val (.ref p36), .val (.ref p37), .unset, .unset] [(.int (own_cu [a0] [b0, b1, b2] (1 : Int32) (3 : Int32)))]))
      refine w_callS X d_123 (wd_60 hw) (wd_61 hw) (wd_3 hw) (wd_62 hw) (by decide) (argsL := [(.int (own_cu [a0] [b0, b1, b2] (1 : Int32) (3 : Int32)))]) (S := []) (m_sg hw (x0 := (own_cu [a0] [b0, b1, b2] (1 : Int32) (3 : Int32)))) pd_8 rfl rfl rfl (by decide) (Nat.le_of_ble_eq_true rfl) (by decide) (by decide) (fun T h39 v39 L39 X q39 => ?_)
      obtain ⟨rfl, rfl⟩ := q39
      show Wp p e below _ (T.setTop (mkF m 126 #[.val (.int x), .val (.int y), .val (.int z), .val (.int w), .val (.int la), .val (.int lb), .val (.int a0), .val (.int a1), .val (.int a2), .val (.int b0), .val (.int b1), .val (.int b2), .val (.ref p36), .val (.ref p37), .unset, .unset] [(.int (own_sign (own_cu [a0] [b0, b1, b2] (1 : Int32) (3 : Int32))))]))
      refine w_istore X #[.val (.int x), .val (.int y), .val (.int z), .val (.int w), .val (.int la), .val (.int lb), .val (.int a0), .val (.int a1), .val (.int a2), .val (.int b0), .val (.int b1), .val (.int b2), .val (.ref p36), .val (.ref p37), .val (.int (own_sign (own_cu [a0] [b0, b1, b2] (1 : Int32) (3 : Int32)))), .unset] d_126 rfl ?_
      refine w_iload X d_128 rfl ?_
      refine w_iload X d_130 rfl ?_
      refine w_iload X d_132 rfl ?_
      refine w_iload X d_134 rfl ?_
      refine w_iload X d_136 rfl ?_
      refine w_iload X d_138 rfl ?_
      refine w_iload X d_140 rfl ?_
      refine w_iload X d_142 rfl ?_
      refine w_callS X d_144 (wd_63 hw) (wd_64 hw) (wd_3 hw) (wd_65 hw) (by decide) (argsL := [(.int la), (.int a0), (.int a1), (.int a2), (.int lb), (.int b0), (.int b1), (.int b2)]) (S := []) (m_ref hw (la := la) (e0 := a0) (e1 := a1) (e2 := a2) (lb := lb) (f0 := b0) (f1 := b1) (f2 := b2)) pd_22 rfl rfl rfl (by decide) (Nat.le_of_ble_eq_true rfl) (by decide) (by decide) (fun T h40 v40 L40 X q40 => ?_)
      obtain ⟨rfl, rfl⟩ := q40
      show Wp p e below _ (T.setTop (mkF m 147 #[.val (.int x), .val (.int y), .val (.int z), .val (.int w), .val (.int la), .val (.int lb), .val (.int a0), .val (.int a1), .val (.int a2), .val (.int b0), .val (.int b1), .val (.int b2), .val (.ref p36), .val (.ref p37), .val (.int (own_sign (own_cu [a0] [b0, b1, b2] (1 : Int32) (3 : Int32)))), .unset] [(.int (own_ref la a0 a1 a2 lb b0 b1 b2))]))
      refine w_istore X #[.val (.int x), .val (.int y), .val (.int z), .val (.int w), .val (.int la), .val (.int lb), .val (.int a0), .val (.int a1), .val (.int a2), .val (.int b0), .val (.int b1), .val (.int b2), .val (.ref p36), .val (.ref p37), .val (.int (own_sign (own_cu [a0] [b0, b1, b2] (1 : Int32) (3 : Int32)))), .val (.int (own_ref la a0 a1 a2 lb b0 b1 b2))] d_147 rfl ?_
      refine w_iload X d_149 rfl ?_
      refine w_iload X d_151 rfl ?_
      refine w_icmpne X d_153 (fun hc => absurd (by rw [hla, hlb]; exact own_fin_1_3 ha0 ha1 ha2 hb0 hb1 hb2) hc) (fun _ => ?_)
      refine w_iconst X (1 : Int32) d_156 rfl ?_
      refine w_goto X d_157 ?_
      exact v_ret_boolean X Y (1 : Int32) (by decide) d_161 rfl (by decide) (by decide)
  · rcases hlb with hlb | hlb | hlb | hlb
    · refine w_iload X d_90 rfl ?_
      refine w_iload X d_92 rfl ?_
      refine w_iload X d_94 rfl ?_
      refine w_iload X d_96 rfl ?_
      refine g_callS X Y (fun vm' hW => (show Em Z Z.heap s.vm from Or.inl I0).warm hW) d_98 (wd_1 hw) (wd_2 hw) (wd_3 hw) (wd_4 hw) (by decide) (argsL := [(.int la), (.int a0), (.int a1), (.int a2)]) (S := []) (m_str_2 hw hU hheld hcw hla ha0 ha1 ha2) pd_20 rfl rfl rfl (by decide) (Nat.le_of_ble_eq_true rfl) (by decide) (by decide) (fun T h41 v41 L41 u kk X Y q41 => ?_)
      obtain ⟨p41, t41, rfl, Tx41, Kc41, M41⟩ := q41
      show Wp p e below _ (T.setTop (mkF m 101 #[.val (.int x), .val (.int y), .val (.int z), .val (.int w), .val (.int la), .val (.int lb), .val (.int a0), .val (.int a1), .val (.int a2), .val (.int b0), .val (.int b1), .val (.int b2), .unset, .unset, .unset, .unset] [(.ref p41)]))
      refine w_astore X #[.val (.int x), .val (.int y), .val (.int z), .val (.int w), .val (.int la), .val (.int lb), .val (.int a0), .val (.int a1), .val (.int a2), .val (.int b0), .val (.int b1), .val (.int b2), .val (.ref p41), .unset, .unset, .unset] d_101 (rfl) rfl ?_
      refine w_iload X d_103 rfl ?_
      refine w_iload X d_105 rfl ?_
      refine w_iload X d_107 rfl ?_
      refine w_iload X d_109 rfl ?_
      refine g_callS X Y (fun vm' hW => M41.warm hW) d_111 (wd_1 hw) (wd_2 hw) (wd_3 hw) (wd_4 hw) (by decide) (argsL := [(.int lb), (.int b0), (.int b1), (.int b2)]) (S := []) (m_str_0 hw hU hheld hcw hlb hb0 hb1 hb2) pd_20 rfl rfl rfl (by decide) (Nat.le_of_ble_eq_true rfl) (by decide) (by decide) (fun T h42 v42 L42 u kk X Y q42 => ?_)
      obtain ⟨p42, t42, rfl, Tx42, Kc42, M42⟩ := q42
      show Wp p e below _ (T.setTop (mkF m 114 #[.val (.int x), .val (.int y), .val (.int z), .val (.int w), .val (.int la), .val (.int lb), .val (.int a0), .val (.int a1), .val (.int a2), .val (.int b0), .val (.int b1), .val (.int b2), .val (.ref p41), .unset, .unset, .unset] [(.ref p42)]))
      refine w_astore X #[.val (.int x), .val (.int y), .val (.int z), .val (.int w), .val (.int la), .val (.int lb), .val (.int a0), .val (.int a1), .val (.int a2), .val (.int b0), .val (.int b1), .val (.int b2), .val (.ref p41), .val (.ref p42), .unset, .unset] d_114 (rfl) rfl ?_
      refine w_aload X d_116 rfl (rfl) ?_
      refine w_aload X d_118 rfl (rfl) ?_
      have f9 := (Tx41.keep Kc42 (List.not_mem_nil) (List.not_mem_nil))
      refine w_callS X d_120 (wd_38 hw) (wd_39 hw) (wd_40 hw) (wd_41 hw) (by decide) (argsL := [(.ref p41), (.ref p42)]) (S := []) (m_cu_2_0 hw hU f9 Tx42 ha0 ha1) pd_21 rfl rfl rfl (by decide) (Nat.le_of_ble_eq_true rfl) (by decide) (by decide) (fun T h43 v43 L43 X q43 => ?_)
      obtain ⟨rfl, rfl⟩ := q43
      show Wp p e below _ (T.setTop (mkF m 123 #[.val (.int x), .val (.int y), .val (.int z), .val (.int w), .val (.int la), .val (.int lb), .val (.int a0), .val (.int a1), .val (.int a2), .val (.int b0), .val (.int b1), .val (.int b2), .val (.ref p41), .val (.ref p42), .unset, .unset] [(.int (own_cu [a0, a1] [] (2 : Int32) (0 : Int32)))]))
      refine w_callS X d_123 (wd_60 hw) (wd_61 hw) (wd_3 hw) (wd_62 hw) (by decide) (argsL := [(.int (own_cu [a0, a1] [] (2 : Int32) (0 : Int32)))]) (S := []) (m_sg hw (x0 := (own_cu [a0, a1] [] (2 : Int32) (0 : Int32)))) pd_8 rfl rfl rfl (by decide) (Nat.le_of_ble_eq_true rfl) (by decide) (by decide) (fun T h44 v44 L44 X q44 => ?_)
      obtain ⟨rfl, rfl⟩ := q44
      show Wp p e below _ (T.setTop (mkF m 126 #[.val (.int x), .val (.int y), .val (.int z), .val (.int w), .val (.int la), .val (.int lb), .val (.int a0), .val (.int a1), .val (.int a2), .val (.int b0), .val (.int b1), .val (.int b2), .val (.ref p41), .val (.ref p42), .unset, .unset] [(.int (own_sign (own_cu [a0, a1] [] (2 : Int32) (0 : Int32))))]))
      refine w_istore X #[.val (.int x), .val (.int y), .val (.int z), .val (.int w), .val (.int la), .val (.int lb), .val (.int a0), .val (.int a1), .val (.int a2), .val (.int b0), .val (.int b1), .val (.int b2), .val (.ref p41), .val (.ref p42), .val (.int (own_sign (own_cu [a0, a1] [] (2 : Int32) (0 : Int32)))), .unset] d_126 rfl ?_
      refine w_iload X d_128 rfl ?_
      refine w_iload X d_130 rfl ?_
      refine w_iload X d_132 rfl ?_
      refine w_iload X d_134 rfl ?_
      refine w_iload X d_136 rfl ?_
      refine w_iload X d_138 rfl ?_
      refine w_iload X d_140 rfl ?_
      refine w_iload X d_142 rfl ?_
      refine w_callS X d_144 (wd_63 hw) (wd_64 hw) (wd_3 hw) (wd_65 hw) (by decide) (argsL := [(.int la), (.int a0), (.int a1), (.int a2), (.int lb), (.int b0), (.int b1), (.int b2)]) (S := []) (m_ref hw (la := la) (e0 := a0) (e1 := a1) (e2 := a2) (lb := lb) (f0 := b0) (f1 := b1) (f2 := b2)) pd_22 rfl rfl rfl (by decide) (Nat.le_of_ble_eq_true rfl) (by decide) (by decide) (fun T h45 v45 L45 X q45 => ?_)
      obtain ⟨rfl, rfl⟩ := q45
      show Wp p e below _ (T.setTop (mkF m 147 #[.val (.int x), .val (.int y), .val (.int z), .val (.int w), .val (.int la), .val (.int lb), .val (.int a0), .val (.int a1), .val (.int a2), .val (.int b0), .val (.int b1), .val (.int b2), .val (.ref p41), .val (.ref p42), .val (.int (own_sign (own_cu [a0, a1] [] (2 : Int32) (0 : Int32)))), .unset] [(.int (own_ref la a0 a1 a2 lb b0 b1 b2))]))
      refine w_istore X #[.val (.int x), .val (.int y), .val (.int z), .val (.int w), .val (.int la), .val (.int lb), .val (.int a0), .val (.int a1), .val (.int a2), .val (.int b0), .val (.int b1), .val (.int b2), .val (.ref p41), .val (.ref p42), .val (.int (own_sign (own_cu [a0, a1] [] (2 : Int32) (0 : Int32)))), .val (.int (own_ref la a0 a1 a2 lb b0 b1 b2))] d_147 rfl ?_
      refine w_iload X d_149 rfl ?_
      refine w_iload X d_151 rfl ?_
      refine w_icmpne X d_153 (fun hc => absurd (by rw [hla, hlb]; exact own_fin_2_0 ha0 ha1 ha2 hb0 hb1 hb2) hc) (fun _ => ?_)
      refine w_iconst X (1 : Int32) d_156 rfl ?_
      refine w_goto X d_157 ?_
      exact v_ret_boolean X Y (1 : Int32) (by decide) d_161 rfl (by decide) (by decide)
    · refine w_iload X d_90 rfl ?_
      refine w_iload X d_92 rfl ?_
      refine w_iload X d_94 rfl ?_
      refine w_iload X d_96 rfl ?_
      refine g_callS X Y (fun vm' hW => (show Em Z Z.heap s.vm from Or.inl I0).warm hW) d_98 (wd_1 hw) (wd_2 hw) (wd_3 hw) (wd_4 hw) (by decide) (argsL := [(.int la), (.int a0), (.int a1), (.int a2)]) (S := []) (m_str_2 hw hU hheld hcw hla ha0 ha1 ha2) pd_20 rfl rfl rfl (by decide) (Nat.le_of_ble_eq_true rfl) (by decide) (by decide) (fun T h46 v46 L46 u kk X Y q46 => ?_)
      obtain ⟨p46, t46, rfl, Tx46, Kc46, M46⟩ := q46
      show Wp p e below _ (T.setTop (mkF m 101 #[.val (.int x), .val (.int y), .val (.int z), .val (.int w), .val (.int la), .val (.int lb), .val (.int a0), .val (.int a1), .val (.int a2), .val (.int b0), .val (.int b1), .val (.int b2), .unset, .unset, .unset, .unset] [(.ref p46)]))
      refine w_astore X #[.val (.int x), .val (.int y), .val (.int z), .val (.int w), .val (.int la), .val (.int lb), .val (.int a0), .val (.int a1), .val (.int a2), .val (.int b0), .val (.int b1), .val (.int b2), .val (.ref p46), .unset, .unset, .unset] d_101 (rfl) rfl ?_
      refine w_iload X d_103 rfl ?_
      refine w_iload X d_105 rfl ?_
      refine w_iload X d_107 rfl ?_
      refine w_iload X d_109 rfl ?_
      refine g_callS X Y (fun vm' hW => M46.warm hW) d_111 (wd_1 hw) (wd_2 hw) (wd_3 hw) (wd_4 hw) (by decide) (argsL := [(.int lb), (.int b0), (.int b1), (.int b2)]) (S := []) (m_str_1 hw hU hheld hcw hlb hb0 hb1 hb2) pd_20 rfl rfl rfl (by decide) (Nat.le_of_ble_eq_true rfl) (by decide) (by decide) (fun T h47 v47 L47 u kk X Y q47 => ?_)
      obtain ⟨p47, t47, rfl, Tx47, Kc47, M47⟩ := q47
      show Wp p e below _ (T.setTop (mkF m 114 #[.val (.int x), .val (.int y), .val (.int z), .val (.int w), .val (.int la), .val (.int lb), .val (.int a0), .val (.int a1), .val (.int a2), .val (.int b0), .val (.int b1), .val (.int b2), .val (.ref p46), .unset, .unset, .unset] [(.ref p47)]))
      refine w_astore X #[.val (.int x), .val (.int y), .val (.int z), .val (.int w), .val (.int la), .val (.int lb), .val (.int a0), .val (.int a1), .val (.int a2), .val (.int b0), .val (.int b1), .val (.int b2), .val (.ref p46), .val (.ref p47), .unset, .unset] d_114 (rfl) rfl ?_
      refine w_aload X d_116 rfl (rfl) ?_
      refine w_aload X d_118 rfl (rfl) ?_
      have f10 := (Tx46.keep Kc47 (List.not_mem_nil) (List.not_mem_nil))
      refine w_callS X d_120 (wd_38 hw) (wd_39 hw) (wd_40 hw) (wd_41 hw) (by decide) (argsL := [(.ref p46), (.ref p47)]) (S := []) (m_cu_2_1 hw hU f10 Tx47 ha0 ha1 hb0) pd_21 rfl rfl rfl (by decide) (Nat.le_of_ble_eq_true rfl) (by decide) (by decide) (fun T h48 v48 L48 X q48 => ?_)
      obtain ⟨rfl, rfl⟩ := q48
      show Wp p e below _ (T.setTop (mkF m 123 #[.val (.int x), .val (.int y), .val (.int z), .val (.int w), .val (.int la), .val (.int lb), .val (.int a0), .val (.int a1), .val (.int a2), .val (.int b0), .val (.int b1), .val (.int b2), .val (.ref p46), .val (.ref p47), .unset, .unset] [(.int (own_cu [a0, a1] [b0] (2 : Int32) (1 : Int32)))]))
      refine w_callS X d_123 (wd_60 hw) (wd_61 hw) (wd_3 hw) (wd_62 hw) (by decide) (argsL := [(.int (own_cu [a0, a1] [b0] (2 : Int32) (1 : Int32)))]) (S := []) (m_sg hw (x0 := (own_cu [a0, a1] [b0] (2 : Int32) (1 : Int32)))) pd_8 rfl rfl rfl (by decide) (Nat.le_of_ble_eq_true rfl) (by decide) (by decide) (fun T h49 v49 L49 X q49 => ?_)
      obtain ⟨rfl, rfl⟩ := q49
      show Wp p e below _ (T.setTop (mkF m 126 #[.val (.int x), .val (.int y), .val (.int z), .val (.int w), .val (.int la), .val (.int lb), .val (.int a0), .val (.int a1), .val (.int a2), .val (.int b0), .val (.int b1), .val (.int b2), .val (.ref p46), .val (.ref p47), .unset, .unset] [(.int (own_sign (own_cu [a0, a1] [b0] (2 : Int32) (1 : Int32))))]))
      refine w_istore X #[.val (.int x), .val (.int y), .val (.int z), .val (.int w), .val (.int la), .val (.int lb), .val (.int a0), .val (.int a1), .val (.int a2), .val (.int b0), .val (.int b1), .val (.int b2), .val (.ref p46), .val (.ref p47), .val (.int (own_sign (own_cu [a0, a1] [b0] (2 : Int32) (1 : Int32)))), .unset] d_126 rfl ?_
      refine w_iload X d_128 rfl ?_
      refine w_iload X d_130 rfl ?_
      refine w_iload X d_132 rfl ?_
      refine w_iload X d_134 rfl ?_
      refine w_iload X d_136 rfl ?_
      refine w_iload X d_138 rfl ?_
      refine w_iload X d_140 rfl ?_
      refine w_iload X d_142 rfl ?_
      refine w_callS X d_144 (wd_63 hw) (wd_64 hw) (wd_3 hw) (wd_65 hw) (by decide) (argsL := [(.int la), (.int a0), (.int a1), (.int a2), (.int lb), (.int b0), (.int b1), (.int b2)]) (S := []) (m_ref hw (la := la) (e0 := a0) (e1 := a1) (e2 := a2) (lb := lb) (f0 := b0) (f1 := b1) (f2 := b2)) pd_22 rfl rfl rfl (by decide) (Nat.le_of_ble_eq_true rfl) (by decide) (by decide) (fun T h50 v50 L50 X q50 => ?_)
      obtain ⟨rfl, rfl⟩ := q50
      show Wp p e below _ (T.setTop (mkF m 147 #[.val (.int x), .val (.int y), .val (.int z), .val (.int w), .val (.int la), .val (.int lb), .val (.int a0), .val (.int a1), .val (.int a2), .val (.int b0), .val (.int b1), .val (.int b2), .val (.ref p46), .val (.ref p47), .val (.int (own_sign (own_cu [a0, a1] [b0] (2 : Int32) (1 : Int32)))), .unset] [(.int (own_ref la a0 a1 a2 lb b0 b1 b2))]))
      refine w_istore X #[.val (.int x), .val (.int y), .val (.int z), .val (.int w), .val (.int la), .val (.int lb), .val (.int a0), .val (.int a1), .val (.int a2), .val (.int b0), .val (.int b1), .val (.int b2), .val (.ref p46), .val (.ref p47), .val (.int (own_sign (own_cu [a0, a1] [b0] (2 : Int32) (1 : Int32)))), .val (.int (own_ref la a0 a1 a2 lb b0 b1 b2))] d_147 rfl ?_
      refine w_iload X d_149 rfl ?_
      refine w_iload X d_151 rfl ?_
      refine w_icmpne X d_153 (fun hc => absurd (by rw [hla, hlb]; exact own_fin_2_1 ha0 ha1 ha2 hb0 hb1 hb2) hc) (fun _ => ?_)
      refine w_iconst X (1 : Int32) d_156 rfl ?_
      refine w_goto X d_157 ?_
      exact v_ret_boolean X Y (1 : Int32) (by decide) d_161 rfl (by decide) (by decide)
    · refine w_iload X d_90 rfl ?_
      refine w_iload X d_92 rfl ?_
      refine w_iload X d_94 rfl ?_
      refine w_iload X d_96 rfl ?_
      refine g_callS X Y (fun vm' hW => (show Em Z Z.heap s.vm from Or.inl I0).warm hW) d_98 (wd_1 hw) (wd_2 hw) (wd_3 hw) (wd_4 hw) (by decide) (argsL := [(.int la), (.int a0), (.int a1), (.int a2)]) (S := []) (m_str_2 hw hU hheld hcw hla ha0 ha1 ha2) pd_20 rfl rfl rfl (by decide) (Nat.le_of_ble_eq_true rfl) (by decide) (by decide) (fun T h51 v51 L51 u kk X Y q51 => ?_)
      obtain ⟨p51, t51, rfl, Tx51, Kc51, M51⟩ := q51
      show Wp p e below _ (T.setTop (mkF m 101 #[.val (.int x), .val (.int y), .val (.int z), .val (.int w), .val (.int la), .val (.int lb), .val (.int a0), .val (.int a1), .val (.int a2), .val (.int b0), .val (.int b1), .val (.int b2), .unset, .unset, .unset, .unset] [(.ref p51)]))
      refine w_astore X #[.val (.int x), .val (.int y), .val (.int z), .val (.int w), .val (.int la), .val (.int lb), .val (.int a0), .val (.int a1), .val (.int a2), .val (.int b0), .val (.int b1), .val (.int b2), .val (.ref p51), .unset, .unset, .unset] d_101 (rfl) rfl ?_
      refine w_iload X d_103 rfl ?_
      refine w_iload X d_105 rfl ?_
      refine w_iload X d_107 rfl ?_
      refine w_iload X d_109 rfl ?_
      refine g_callS X Y (fun vm' hW => M51.warm hW) d_111 (wd_1 hw) (wd_2 hw) (wd_3 hw) (wd_4 hw) (by decide) (argsL := [(.int lb), (.int b0), (.int b1), (.int b2)]) (S := []) (m_str_2 hw hU hheld hcw hlb hb0 hb1 hb2) pd_20 rfl rfl rfl (by decide) (Nat.le_of_ble_eq_true rfl) (by decide) (by decide) (fun T h52 v52 L52 u kk X Y q52 => ?_)
      obtain ⟨p52, t52, rfl, Tx52, Kc52, M52⟩ := q52
      show Wp p e below _ (T.setTop (mkF m 114 #[.val (.int x), .val (.int y), .val (.int z), .val (.int w), .val (.int la), .val (.int lb), .val (.int a0), .val (.int a1), .val (.int a2), .val (.int b0), .val (.int b1), .val (.int b2), .val (.ref p51), .unset, .unset, .unset] [(.ref p52)]))
      refine w_astore X #[.val (.int x), .val (.int y), .val (.int z), .val (.int w), .val (.int la), .val (.int lb), .val (.int a0), .val (.int a1), .val (.int a2), .val (.int b0), .val (.int b1), .val (.int b2), .val (.ref p51), .val (.ref p52), .unset, .unset] d_114 (rfl) rfl ?_
      refine w_aload X d_116 rfl (rfl) ?_
      refine w_aload X d_118 rfl (rfl) ?_
      have f11 := (Tx51.keep Kc52 (List.not_mem_nil) (List.not_mem_nil))
      refine w_callS X d_120 (wd_38 hw) (wd_39 hw) (wd_40 hw) (wd_41 hw) (by decide) (argsL := [(.ref p51), (.ref p52)]) (S := []) (m_cu_2_2 hw hU f11 Tx52 ha0 ha1 hb0 hb1) pd_21 rfl rfl rfl (by decide) (Nat.le_of_ble_eq_true rfl) (by decide) (by decide) (fun T h53 v53 L53 X q53 => ?_)
      obtain ⟨rfl, rfl⟩ := q53
      show Wp p e below _ (T.setTop (mkF m 123 #[.val (.int x), .val (.int y), .val (.int z), .val (.int w), .val (.int la), .val (.int lb), .val (.int a0), .val (.int a1), .val (.int a2), .val (.int b0), .val (.int b1), .val (.int b2), .val (.ref p51), .val (.ref p52), .unset, .unset] [(.int (own_cu [a0, a1] [b0, b1] (2 : Int32) (2 : Int32)))]))
      refine w_callS X d_123 (wd_60 hw) (wd_61 hw) (wd_3 hw) (wd_62 hw) (by decide) (argsL := [(.int (own_cu [a0, a1] [b0, b1] (2 : Int32) (2 : Int32)))]) (S := []) (m_sg hw (x0 := (own_cu [a0, a1] [b0, b1] (2 : Int32) (2 : Int32)))) pd_8 rfl rfl rfl (by decide) (Nat.le_of_ble_eq_true rfl) (by decide) (by decide) (fun T h54 v54 L54 X q54 => ?_)
      obtain ⟨rfl, rfl⟩ := q54
      show Wp p e below _ (T.setTop (mkF m 126 #[.val (.int x), .val (.int y), .val (.int z), .val (.int w), .val (.int la), .val (.int lb), .val (.int a0), .val (.int a1), .val (.int a2), .val (.int b0), .val (.int b1), .val (.int b2), .val (.ref p51), .val (.ref p52), .unset, .unset] [(.int (own_sign (own_cu [a0, a1] [b0, b1] (2 : Int32) (2 : Int32))))]))
      refine w_istore X #[.val (.int x), .val (.int y), .val (.int z), .val (.int w), .val (.int la), .val (.int lb), .val (.int a0), .val (.int a1), .val (.int a2), .val (.int b0), .val (.int b1), .val (.int b2), .val (.ref p51), .val (.ref p52), .val (.int (own_sign (own_cu [a0, a1] [b0, b1] (2 : Int32) (2 : Int32)))), .unset] d_126 rfl ?_
      refine w_iload X d_128 rfl ?_
      refine w_iload X d_130 rfl ?_
      refine w_iload X d_132 rfl ?_
      refine w_iload X d_134 rfl ?_
      refine w_iload X d_136 rfl ?_
      refine w_iload X d_138 rfl ?_
      refine w_iload X d_140 rfl ?_
      refine w_iload X d_142 rfl ?_
      refine w_callS X d_144 (wd_63 hw) (wd_64 hw) (wd_3 hw) (wd_65 hw) (by decide) (argsL := [(.int la), (.int a0), (.int a1), (.int a2), (.int lb), (.int b0), (.int b1), (.int b2)]) (S := []) (m_ref hw (la := la) (e0 := a0) (e1 := a1) (e2 := a2) (lb := lb) (f0 := b0) (f1 := b1) (f2 := b2)) pd_22 rfl rfl rfl (by decide) (Nat.le_of_ble_eq_true rfl) (by decide) (by decide) (fun T h55 v55 L55 X q55 => ?_)
      obtain ⟨rfl, rfl⟩ := q55
      show Wp p e below _ (T.setTop (mkF m 147 #[.val (.int x), .val (.int y), .val (.int z), .val (.int w), .val (.int la), .val (.int lb), .val (.int a0), .val (.int a1), .val (.int a2), .val (.int b0), .val (.int b1), .val (.int b2), .val (.ref p51), .val (.ref p52), .val (.int (own_sign (own_cu [a0, a1] [b0, b1] (2 : Int32) (2 : Int32)))), .unset] [(.int (own_ref la a0 a1 a2 lb b0 b1 b2))]))
      refine w_istore X #[.val (.int x), .val (.int y), .val (.int z), .val (.int w), .val (.int la), .val (.int lb), .val (.int a0), .val (.int a1), .val (.int a2), .val (.int b0), .val (.int b1), .val (.int b2), .val (.ref p51), .val (.ref p52), .val (.int (own_sign (own_cu [a0, a1] [b0, b1] (2 : Int32) (2 : Int32)))), .val (.int (own_ref la a0 a1 a2 lb b0 b1 b2))] d_147 rfl ?_
      refine w_iload X d_149 rfl ?_
      refine w_iload X d_151 rfl ?_
      refine w_icmpne X d_153 (fun hc => absurd (by rw [hla, hlb]; exact own_fin_2_2 ha0 ha1 ha2 hb0 hb1 hb2) hc) (fun _ => ?_)
      refine w_iconst X (1 : Int32) d_156 rfl ?_
      refine w_goto X d_157 ?_
      exact v_ret_boolean X Y (1 : Int32) (by decide) d_161 rfl (by decide) (by decide)
    · refine w_iload X d_90 rfl ?_
      refine w_iload X d_92 rfl ?_
      refine w_iload X d_94 rfl ?_
      refine w_iload X d_96 rfl ?_
      refine g_callS X Y (fun vm' hW => (show Em Z Z.heap s.vm from Or.inl I0).warm hW) d_98 (wd_1 hw) (wd_2 hw) (wd_3 hw) (wd_4 hw) (by decide) (argsL := [(.int la), (.int a0), (.int a1), (.int a2)]) (S := []) (m_str_2 hw hU hheld hcw hla ha0 ha1 ha2) pd_20 rfl rfl rfl (by decide) (Nat.le_of_ble_eq_true rfl) (by decide) (by decide) (fun T h56 v56 L56 u kk X Y q56 => ?_)
      obtain ⟨p56, t56, rfl, Tx56, Kc56, M56⟩ := q56
      show Wp p e below _ (T.setTop (mkF m 101 #[.val (.int x), .val (.int y), .val (.int z), .val (.int w), .val (.int la), .val (.int lb), .val (.int a0), .val (.int a1), .val (.int a2), .val (.int b0), .val (.int b1), .val (.int b2), .unset, .unset, .unset, .unset] [(.ref p56)]))
      refine w_astore X #[.val (.int x), .val (.int y), .val (.int z), .val (.int w), .val (.int la), .val (.int lb), .val (.int a0), .val (.int a1), .val (.int a2), .val (.int b0), .val (.int b1), .val (.int b2), .val (.ref p56), .unset, .unset, .unset] d_101 (rfl) rfl ?_
      refine w_iload X d_103 rfl ?_
      refine w_iload X d_105 rfl ?_
      refine w_iload X d_107 rfl ?_
      refine w_iload X d_109 rfl ?_
      refine g_callS X Y (fun vm' hW => M56.warm hW) d_111 (wd_1 hw) (wd_2 hw) (wd_3 hw) (wd_4 hw) (by decide) (argsL := [(.int lb), (.int b0), (.int b1), (.int b2)]) (S := []) (m_str_3 hw hU hheld hcw hlb hb0 hb1 hb2) pd_20 rfl rfl rfl (by decide) (Nat.le_of_ble_eq_true rfl) (by decide) (by decide) (fun T h57 v57 L57 u kk X Y q57 => ?_)
      obtain ⟨p57, t57, rfl, Tx57, Kc57, M57⟩ := q57
      show Wp p e below _ (T.setTop (mkF m 114 #[.val (.int x), .val (.int y), .val (.int z), .val (.int w), .val (.int la), .val (.int lb), .val (.int a0), .val (.int a1), .val (.int a2), .val (.int b0), .val (.int b1), .val (.int b2), .val (.ref p56), .unset, .unset, .unset] [(.ref p57)]))
      refine w_astore X #[.val (.int x), .val (.int y), .val (.int z), .val (.int w), .val (.int la), .val (.int lb), .val (.int a0), .val (.int a1), .val (.int a2), .val (.int b0), .val (.int b1), .val (.int b2), .val (.ref p56), .val (.ref p57), .unset, .unset] d_114 (rfl) rfl ?_
      refine w_aload X d_116 rfl (rfl) ?_
      refine w_aload X d_118 rfl (rfl) ?_
      have f12 := (Tx56.keep Kc57 (List.not_mem_nil) (List.not_mem_nil))
      refine w_callS X d_120 (wd_38 hw) (wd_39 hw) (wd_40 hw) (wd_41 hw) (by decide) (argsL := [(.ref p56), (.ref p57)]) (S := []) (m_cu_2_3 hw hU f12 Tx57 ha0 ha1 hb0 hb1 hb2) pd_21 rfl rfl rfl (by decide) (Nat.le_of_ble_eq_true rfl) (by decide) (by decide) (fun T h58 v58 L58 X q58 => ?_)
      obtain ⟨rfl, rfl⟩ := q58
      show Wp p e below _ (T.setTop (mkF m 123 #[.val (.int x), .val (.int y), .val (.int z), .val (.int w), .val (.int la), .val (.int lb), .val (.int a0), .val (.int a1), .val (.int a2), .val (.int b0), .val (.int b1), .val (.int b2), .val (.ref p56), .val (.ref p57), .unset, .unset] [(.int (own_cu [a0, a1] [b0, b1, b2] (2 : Int32) (3 : Int32)))]))
      refine w_callS X d_123 (wd_60 hw) (wd_61 hw) (wd_3 hw) (wd_62 hw) (by decide) (argsL := [(.int (own_cu [a0, a1] [b0, b1, b2] (2 : Int32) (3 : Int32)))]) (S := []) (m_sg hw (x0 := (own_cu [a0, a1] [b0, b1, b2] (2 : Int32) (3 : Int32)))) pd_8 rfl rfl rfl (by decide) (Nat.le_of_ble_eq_true rfl) (by decide) (by decide) (fun T h59 v59 L59 X q59 => ?_)
      obtain ⟨rfl, rfl⟩ := q59
      show Wp p e below _ (T.setTop (mkF m 126 #[.val (.int x), .val (.int y), .val (.int z), .val (.int w), .val (.int la), .val (.int lb), .val (.int a0), .val (.int a1), .val (.int a2), .val (.int b0), .val (.int b1), .val (.int b2), .val (.ref p56), .val (.ref p57), .unset, .unset] [(.int (own_sign (own_cu [a0, a1] [b0, b1, b2] (2 : Int32) (3 : Int32))))]))
      refine w_istore X #[.val (.int x), .val (.int y), .val (.int z), .val (.int w), .val (.int la), .val (.int lb), .val (.int a0), .val (.int a1), .val (.int a2), .val (.int b0), .val (.int b1), .val (.int b2), .val (.ref p56), .val (.ref p57), .val (.int (own_sign (own_cu [a0, a1] [b0, b1, b2] (2 : Int32) (3 : Int32)))), .unset] d_126 rfl ?_
      refine w_iload X d_128 rfl ?_
      refine w_iload X d_130 rfl ?_
      refine w_iload X d_132 rfl ?_
      refine w_iload X d_134 rfl ?_
      refine w_iload X d_136 rfl ?_
      refine w_iload X d_138 rfl ?_
      refine w_iload X d_140 rfl ?_
      refine w_iload X d_142 rfl ?_
      refine w_callS X d_144 (wd_63 hw) (wd_64 hw) (wd_3 hw) (wd_65 hw) (by decide) (argsL := [(.int la), (.int a0), (.int a1), (.int a2), (.int lb), (.int b0), (.int b1), (.int b2)]) (S := []) (m_ref hw (la := la) (e0 := a0) (e1 := a1) (e2 := a2) (lb := lb) (f0 := b0) (f1 := b1) (f2 := b2)) pd_22 rfl rfl rfl (by decide) (Nat.le_of_ble_eq_true rfl) (by decide) (by decide) (fun T h60 v60 L60 X q60 => ?_)
      obtain ⟨rfl, rfl⟩ := q60
      show Wp p e below _ (T.setTop (mkF m 147 #[.val (.int x), .val (.int y), .val (.int z), .val (.int w), .val (.int la), .val (.int lb), .val (.int a0), .val (.int a1), .val (.int a2), .val (.int b0), .val (.int b1), .val (.int b2), .val (.ref p56), .val (.ref p57), .val (.int (own_sign (own_cu [a0, a1] [b0, b1, b2] (2 : Int32) (3 : Int32)))), .unset] [(.int (own_ref la a0 a1 a2 lb b0 b1 b2))]))
      refine w_istore X #[.val (.int x), .val (.int y), .val (.int z), .val (.int w), .val (.int la), .val (.int lb), .val (.int a0), .val (.int a1), .val (.int a2), .val (.int b0), .val (.int b1), .val (.int b2), .val (.ref p56), .val (.ref p57), .val (.int (own_sign (own_cu [a0, a1] [b0, b1, b2] (2 : Int32) (3 : Int32)))), .val (.int (own_ref la a0 a1 a2 lb b0 b1 b2))] d_147 rfl ?_
      refine w_iload X d_149 rfl ?_
      refine w_iload X d_151 rfl ?_
      refine w_icmpne X d_153 (fun hc => absurd (by rw [hla, hlb]; exact own_fin_2_3 ha0 ha1 ha2 hb0 hb1 hb2) hc) (fun _ => ?_)
      refine w_iconst X (1 : Int32) d_156 rfl ?_
      refine w_goto X d_157 ?_
      exact v_ret_boolean X Y (1 : Int32) (by decide) d_161 rfl (by decide) (by decide)
  · rcases hlb with hlb | hlb | hlb | hlb
    · refine w_iload X d_90 rfl ?_
      refine w_iload X d_92 rfl ?_
      refine w_iload X d_94 rfl ?_
      refine w_iload X d_96 rfl ?_
      refine g_callS X Y (fun vm' hW => (show Em Z Z.heap s.vm from Or.inl I0).warm hW) d_98 (wd_1 hw) (wd_2 hw) (wd_3 hw) (wd_4 hw) (by decide) (argsL := [(.int la), (.int a0), (.int a1), (.int a2)]) (S := []) (m_str_3 hw hU hheld hcw hla ha0 ha1 ha2) pd_20 rfl rfl rfl (by decide) (Nat.le_of_ble_eq_true rfl) (by decide) (by decide) (fun T h61 v61 L61 u kk X Y q61 => ?_)
      obtain ⟨p61, t61, rfl, Tx61, Kc61, M61⟩ := q61
      show Wp p e below _ (T.setTop (mkF m 101 #[.val (.int x), .val (.int y), .val (.int z), .val (.int w), .val (.int la), .val (.int lb), .val (.int a0), .val (.int a1), .val (.int a2), .val (.int b0), .val (.int b1), .val (.int b2), .unset, .unset, .unset, .unset] [(.ref p61)]))
      refine w_astore X #[.val (.int x), .val (.int y), .val (.int z), .val (.int w), .val (.int la), .val (.int lb), .val (.int a0), .val (.int a1), .val (.int a2), .val (.int b0), .val (.int b1), .val (.int b2), .val (.ref p61), .unset, .unset, .unset] d_101 (rfl) rfl ?_
      refine w_iload X d_103 rfl ?_
      refine w_iload X d_105 rfl ?_
      refine w_iload X d_107 rfl ?_
      refine w_iload X d_109 rfl ?_
      refine g_callS X Y (fun vm' hW => M61.warm hW) d_111 (wd_1 hw) (wd_2 hw) (wd_3 hw) (wd_4 hw) (by decide) (argsL := [(.int lb), (.int b0), (.int b1), (.int b2)]) (S := []) (m_str_0 hw hU hheld hcw hlb hb0 hb1 hb2) pd_20 rfl rfl rfl (by decide) (Nat.le_of_ble_eq_true rfl) (by decide) (by decide) (fun T h62 v62 L62 u kk X Y q62 => ?_)
      obtain ⟨p62, t62, rfl, Tx62, Kc62, M62⟩ := q62
      show Wp p e below _ (T.setTop (mkF m 114 #[.val (.int x), .val (.int y), .val (.int z), .val (.int w), .val (.int la), .val (.int lb), .val (.int a0), .val (.int a1), .val (.int a2), .val (.int b0), .val (.int b1), .val (.int b2), .val (.ref p61), .unset, .unset, .unset] [(.ref p62)]))
      refine w_astore X #[.val (.int x), .val (.int y), .val (.int z), .val (.int w), .val (.int la), .val (.int lb), .val (.int a0), .val (.int a1), .val (.int a2), .val (.int b0), .val (.int b1), .val (.int b2), .val (.ref p61), .val (.ref p62), .unset, .unset] d_114 (rfl) rfl ?_
      refine w_aload X d_116 rfl (rfl) ?_
      refine w_aload X d_118 rfl (rfl) ?_
      have f13 := (Tx61.keep Kc62 (List.not_mem_nil) (List.not_mem_nil))
      refine w_callS X d_120 (wd_38 hw) (wd_39 hw) (wd_40 hw) (wd_41 hw) (by decide) (argsL := [(.ref p61), (.ref p62)]) (S := []) (m_cu_3_0 hw hU f13 Tx62 ha0 ha1 ha2) pd_21 rfl rfl rfl (by decide) (Nat.le_of_ble_eq_true rfl) (by decide) (by decide) (fun T h63 v63 L63 X q63 => ?_)
      obtain ⟨rfl, rfl⟩ := q63
      show Wp p e below _ (T.setTop (mkF m 123 #[.val (.int x), .val (.int y), .val (.int z), .val (.int w), .val (.int la), .val (.int lb), .val (.int a0), .val (.int a1), .val (.int a2), .val (.int b0), .val (.int b1), .val (.int b2), .val (.ref p61), .val (.ref p62), .unset, .unset] [(.int (own_cu [a0, a1, a2] [] (3 : Int32) (0 : Int32)))]))
      refine w_callS X d_123 (wd_60 hw) (wd_61 hw) (wd_3 hw) (wd_62 hw) (by decide) (argsL := [(.int (own_cu [a0, a1, a2] [] (3 : Int32) (0 : Int32)))]) (S := []) (m_sg hw (x0 := (own_cu [a0, a1, a2] [] (3 : Int32) (0 : Int32)))) pd_8 rfl rfl rfl (by decide) (Nat.le_of_ble_eq_true rfl) (by decide) (by decide) (fun T h64 v64 L64 X q64 => ?_)
      obtain ⟨rfl, rfl⟩ := q64
      show Wp p e below _ (T.setTop (mkF m 126 #[.val (.int x), .val (.int y), .val (.int z), .val (.int w), .val (.int la), .val (.int lb), .val (.int a0), .val (.int a1), .val (.int a2), .val (.int b0), .val (.int b1), .val (.int b2), .val (.ref p61), .val (.ref p62), .unset, .unset] [(.int (own_sign (own_cu [a0, a1, a2] [] (3 : Int32) (0 : Int32))))]))
      refine w_istore X #[.val (.int x), .val (.int y), .val (.int z), .val (.int w), .val (.int la), .val (.int lb), .val (.int a0), .val (.int a1), .val (.int a2), .val (.int b0), .val (.int b1), .val (.int b2), .val (.ref p61), .val (.ref p62), .val (.int (own_sign (own_cu [a0, a1, a2] [] (3 : Int32) (0 : Int32)))), .unset] d_126 rfl ?_
      refine w_iload X d_128 rfl ?_
      refine w_iload X d_130 rfl ?_
      refine w_iload X d_132 rfl ?_
      refine w_iload X d_134 rfl ?_
      refine w_iload X d_136 rfl ?_
      refine w_iload X d_138 rfl ?_
      refine w_iload X d_140 rfl ?_
      refine w_iload X d_142 rfl ?_
      refine w_callS X d_144 (wd_63 hw) (wd_64 hw) (wd_3 hw) (wd_65 hw) (by decide) (argsL := [(.int la), (.int a0), (.int a1), (.int a2), (.int lb), (.int b0), (.int b1), (.int b2)]) (S := []) (m_ref hw (la := la) (e0 := a0) (e1 := a1) (e2 := a2) (lb := lb) (f0 := b0) (f1 := b1) (f2 := b2)) pd_22 rfl rfl rfl (by decide) (Nat.le_of_ble_eq_true rfl) (by decide) (by decide) (fun T h65 v65 L65 X q65 => ?_)
      obtain ⟨rfl, rfl⟩ := q65
      show Wp p e below _ (T.setTop (mkF m 147 #[.val (.int x), .val (.int y), .val (.int z), .val (.int w), .val (.int la), .val (.int lb), .val (.int a0), .val (.int a1), .val (.int a2), .val (.int b0), .val (.int b1), .val (.int b2), .val (.ref p61), .val (.ref p62), .val (.int (own_sign (own_cu [a0, a1, a2] [] (3 : Int32) (0 : Int32)))), .unset] [(.int (own_ref la a0 a1 a2 lb b0 b1 b2))]))
      refine w_istore X #[.val (.int x), .val (.int y), .val (.int z), .val (.int w), .val (.int la), .val (.int lb), .val (.int a0), .val (.int a1), .val (.int a2), .val (.int b0), .val (.int b1), .val (.int b2), .val (.ref p61), .val (.ref p62), .val (.int (own_sign (own_cu [a0, a1, a2] [] (3 : Int32) (0 : Int32)))), .val (.int (own_ref la a0 a1 a2 lb b0 b1 b2))] d_147 rfl ?_
      refine w_iload X d_149 rfl ?_
      refine w_iload X d_151 rfl ?_
      refine w_icmpne X d_153 (fun hc => absurd (by rw [hla, hlb]; exact own_fin_3_0 ha0 ha1 ha2 hb0 hb1 hb2) hc) (fun _ => ?_)
      refine w_iconst X (1 : Int32) d_156 rfl ?_
      refine w_goto X d_157 ?_
      exact v_ret_boolean X Y (1 : Int32) (by decide) d_161 rfl (by decide) (by decide)
    · refine w_iload X d_90 rfl ?_
      refine w_iload X d_92 rfl ?_
      refine w_iload X d_94 rfl ?_
      refine w_iload X d_96 rfl ?_
      refine g_callS X Y (fun vm' hW => (show Em Z Z.heap s.vm from Or.inl I0).warm hW) d_98 (wd_1 hw) (wd_2 hw) (wd_3 hw) (wd_4 hw) (by decide) (argsL := [(.int la), (.int a0), (.int a1), (.int a2)]) (S := []) (m_str_3 hw hU hheld hcw hla ha0 ha1 ha2) pd_20 rfl rfl rfl (by decide) (Nat.le_of_ble_eq_true rfl) (by decide) (by decide) (fun T h66 v66 L66 u kk X Y q66 => ?_)
      obtain ⟨p66, t66, rfl, Tx66, Kc66, M66⟩ := q66
      show Wp p e below _ (T.setTop (mkF m 101 #[.val (.int x), .val (.int y), .val (.int z), .val (.int w), .val (.int la), .val (.int lb), .val (.int a0), .val (.int a1), .val (.int a2), .val (.int b0), .val (.int b1), .val (.int b2), .unset, .unset, .unset, .unset] [(.ref p66)]))
      refine w_astore X #[.val (.int x), .val (.int y), .val (.int z), .val (.int w), .val (.int la), .val (.int lb), .val (.int a0), .val (.int a1), .val (.int a2), .val (.int b0), .val (.int b1), .val (.int b2), .val (.ref p66), .unset, .unset, .unset] d_101 (rfl) rfl ?_
      refine w_iload X d_103 rfl ?_
      refine w_iload X d_105 rfl ?_
      refine w_iload X d_107 rfl ?_
      refine w_iload X d_109 rfl ?_
      refine g_callS X Y (fun vm' hW => M66.warm hW) d_111 (wd_1 hw) (wd_2 hw) (wd_3 hw) (wd_4 hw) (by decide) (argsL := [(.int lb), (.int b0), (.int b1), (.int b2)]) (S := []) (m_str_1 hw hU hheld hcw hlb hb0 hb1 hb2) pd_20 rfl rfl rfl (by decide) (Nat.le_of_ble_eq_true rfl) (by decide) (by decide) (fun T h67 v67 L67 u kk X Y q67 => ?_)
      obtain ⟨p67, t67, rfl, Tx67, Kc67, M67⟩ := q67
      show Wp p e below _ (T.setTop (mkF m 114 #[.val (.int x), .val (.int y), .val (.int z), .val (.int w), .val (.int la), .val (.int lb), .val (.int a0), .val (.int a1), .val (.int a2), .val (.int b0), .val (.int b1), .val (.int b2), .val (.ref p66), .unset, .unset, .unset] [(.ref p67)]))
      refine w_astore X #[.val (.int x), .val (.int y), .val (.int z), .val (.int w), .val (.int la), .val (.int lb), .val (.int a0), .val (.int a1), .val (.int a2), .val (.int b0), .val (.int b1), .val (.int b2), .val (.ref p66), .val (.ref p67), .unset, .unset] d_114 (rfl) rfl ?_
      refine w_aload X d_116 rfl (rfl) ?_
      refine w_aload X d_118 rfl (rfl) ?_
      have f14 := (Tx66.keep Kc67 (List.not_mem_nil) (List.not_mem_nil))
      refine w_callS X d_120 (wd_38 hw) (wd_39 hw) (wd_40 hw) (wd_41 hw) (by decide) (argsL := [(.ref p66), (.ref p67)]) (S := []) (m_cu_3_1 hw hU f14 Tx67 ha0 ha1 ha2 hb0) pd_21 rfl rfl rfl (by decide) (Nat.le_of_ble_eq_true rfl) (by decide) (by decide) (fun T h68 v68 L68 X q68 => ?_)
      obtain ⟨rfl, rfl⟩ := q68
      show Wp p e below _ (T.setTop (mkF m 123 #[.val (.int x), .val (.int y), .val (.int z), .val (.int w), .val (.int la), .val (.int lb), .val (.int a0), .val (.int a1), .val (.int a2), .val (.int b0), .val (.int b1), .val (.int b2), .val (.ref p66), .val (.ref p67), .unset, .unset] [(.int (own_cu [a0, a1, a2] [b0] (3 : Int32) (1 : Int32)))]))
      refine w_callS X d_123 (wd_60 hw) (wd_61 hw) (wd_3 hw) (wd_62 hw) (by decide) (argsL := [(.int (own_cu [a0, a1, a2] [b0] (3 : Int32) (1 : Int32)))]) (S := []) (m_sg hw (x0 := (own_cu [a0, a1, a2] [b0] (3 : Int32) (1 : Int32)))) pd_8 rfl rfl rfl (by decide) (Nat.le_of_ble_eq_true rfl) (by decide) (by decide) (fun T h69 v69 L69 X q69 => ?_)
      obtain ⟨rfl, rfl⟩ := q69
      show Wp p e below _ (T.setTop (mkF m 126 #[.val (.int x), .val (.int y), .val (.int z), .val (.int w), .val (.int la), .val (.int lb), .val (.int a0), .val (.int a1), .val (.int a2), .val (.int b0), .val (.int b1), .val (.int b2), .val (.ref p66), .val (.ref p67), .unset, .unset] [(.int (own_sign (own_cu [a0, a1, a2] [b0] (3 : Int32) (1 : Int32))))]))
      refine w_istore X #[.val (.int x), .val (.int y), .val (.int z), .val (.int w), .val (.int la), .val (.int lb), .val (.int a0), .val (.int a1), .val (.int a2), .val (.int b0), .val (.int b1), .val (.int b2), .val (.ref p66), .val (.ref p67), .val (.int (own_sign (own_cu [a0, a1, a2] [b0] (3 : Int32) (1 : Int32)))), .unset] d_126 rfl ?_
      refine w_iload X d_128 rfl ?_
      refine w_iload X d_130 rfl ?_
      refine w_iload X d_132 rfl ?_
      refine w_iload X d_134 rfl ?_
      refine w_iload X d_136 rfl ?_
      refine w_iload X d_138 rfl ?_
      refine w_iload X d_140 rfl ?_
      refine w_iload X d_142 rfl ?_
      refine w_callS X d_144 (wd_63 hw) (wd_64 hw) (wd_3 hw) (wd_65 hw) (by decide) (argsL := [(.int la), (.int a0), (.int a1), (.int a2), (.int lb), (.int b0), (.int b1), (.int b2)]) (S := []) (m_ref hw (la := la) (e0 := a0) (e1 := a1) (e2 := a2) (lb := lb) (f0 := b0) (f1 := b1) (f2 := b2)) pd_22 rfl rfl rfl (by decide) (Nat.le_of_ble_eq_true rfl) (by decide) (by decide) (fun T h70 v70 L70 X q70 => ?_)
      obtain ⟨rfl, rfl⟩ := q70
      show Wp p e below _ (T.setTop (mkF m 147 #[.val (.int x), .val (.int y), .val (.int z), .val (.int w), .val (.int la), .val (.int lb), .val (.int a0), .val (.int a1), .val (.int a2), .val (.int b0), .val (.int b1), .val (.int b2), .val (.ref p66), .val (.ref p67), .val (.int (own_sign (own_cu [a0, a1, a2] [b0] (3 : Int32) (1 : Int32)))), .unset] [(.int (own_ref la a0 a1 a2 lb b0 b1 b2))]))
      refine w_istore X #[.val (.int x), .val (.int y), .val (.int z), .val (.int w), .val (.int la), .val (.int lb), .val (.int a0), .val (.int a1), .val (.int a2), .val (.int b0), .val (.int b1), .val (.int b2), .val (.ref p66), .val (.ref p67), .val (.int (own_sign (own_cu [a0, a1, a2] [b0] (3 : Int32) (1 : Int32)))), .val (.int (own_ref la a0 a1 a2 lb b0 b1 b2))] d_147 rfl ?_
      refine w_iload X d_149 rfl ?_
      refine w_iload X d_151 rfl ?_
      refine w_icmpne X d_153 (fun hc => absurd (by rw [hla, hlb]; exact own_fin_3_1 ha0 ha1 ha2 hb0 hb1 hb2) hc) (fun _ => ?_)
      refine w_iconst X (1 : Int32) d_156 rfl ?_
      refine w_goto X d_157 ?_
      exact v_ret_boolean X Y (1 : Int32) (by decide) d_161 rfl (by decide) (by decide)
    · refine w_iload X d_90 rfl ?_
      refine w_iload X d_92 rfl ?_
      refine w_iload X d_94 rfl ?_
      refine w_iload X d_96 rfl ?_
      refine g_callS X Y (fun vm' hW => (show Em Z Z.heap s.vm from Or.inl I0).warm hW) d_98 (wd_1 hw) (wd_2 hw) (wd_3 hw) (wd_4 hw) (by decide) (argsL := [(.int la), (.int a0), (.int a1), (.int a2)]) (S := []) (m_str_3 hw hU hheld hcw hla ha0 ha1 ha2) pd_20 rfl rfl rfl (by decide) (Nat.le_of_ble_eq_true rfl) (by decide) (by decide) (fun T h71 v71 L71 u kk X Y q71 => ?_)
      obtain ⟨p71, t71, rfl, Tx71, Kc71, M71⟩ := q71
      show Wp p e below _ (T.setTop (mkF m 101 #[.val (.int x), .val (.int y), .val (.int z), .val (.int w), .val (.int la), .val (.int lb), .val (.int a0), .val (.int a1), .val (.int a2), .val (.int b0), .val (.int b1), .val (.int b2), .unset, .unset, .unset, .unset] [(.ref p71)]))
      refine w_astore X #[.val (.int x), .val (.int y), .val (.int z), .val (.int w), .val (.int la), .val (.int lb), .val (.int a0), .val (.int a1), .val (.int a2), .val (.int b0), .val (.int b1), .val (.int b2), .val (.ref p71), .unset, .unset, .unset] d_101 (rfl) rfl ?_
      refine w_iload X d_103 rfl ?_
      refine w_iload X d_105 rfl ?_
      refine w_iload X d_107 rfl ?_
      refine w_iload X d_109 rfl ?_
      refine g_callS X Y (fun vm' hW => M71.warm hW) d_111 (wd_1 hw) (wd_2 hw) (wd_3 hw) (wd_4 hw) (by decide) (argsL := [(.int lb), (.int b0), (.int b1), (.int b2)]) (S := []) (m_str_2 hw hU hheld hcw hlb hb0 hb1 hb2) pd_20 rfl rfl rfl (by decide) (Nat.le_of_ble_eq_true rfl) (by decide) (by decide) (fun T h72 v72 L72 u kk X Y q72 => ?_)
      obtain ⟨p72, t72, rfl, Tx72, Kc72, M72⟩ := q72
      show Wp p e below _ (T.setTop (mkF m 114 #[.val (.int x), .val (.int y), .val (.int z), .val (.int w), .val (.int la), .val (.int lb), .val (.int a0), .val (.int a1), .val (.int a2), .val (.int b0), .val (.int b1), .val (.int b2), .val (.ref p71), .unset, .unset, .unset] [(.ref p72)]))
      refine w_astore X #[.val (.int x), .val (.int y), .val (.int z), .val (.int w), .val (.int la), .val (.int lb), .val (.int a0), .val (.int a1), .val (.int a2), .val (.int b0), .val (.int b1), .val (.int b2), .val (.ref p71), .val (.ref p72), .unset, .unset] d_114 (rfl) rfl ?_
      refine w_aload X d_116 rfl (rfl) ?_
      refine w_aload X d_118 rfl (rfl) ?_
      have f15 := (Tx71.keep Kc72 (List.not_mem_nil) (List.not_mem_nil))
      refine w_callS X d_120 (wd_38 hw) (wd_39 hw) (wd_40 hw) (wd_41 hw) (by decide) (argsL := [(.ref p71), (.ref p72)]) (S := []) (m_cu_3_2 hw hU f15 Tx72 ha0 ha1 ha2 hb0 hb1) pd_21 rfl rfl rfl (by decide) (Nat.le_of_ble_eq_true rfl) (by decide) (by decide) (fun T h73 v73 L73 X q73 => ?_)
      obtain ⟨rfl, rfl⟩ := q73
      show Wp p e below _ (T.setTop (mkF m 123 #[.val (.int x), .val (.int y), .val (.int z), .val (.int w), .val (.int la), .val (.int lb), .val (.int a0), .val (.int a1), .val (.int a2), .val (.int b0), .val (.int b1), .val (.int b2), .val (.ref p71), .val (.ref p72), .unset, .unset] [(.int (own_cu [a0, a1, a2] [b0, b1] (3 : Int32) (2 : Int32)))]))
      refine w_callS X d_123 (wd_60 hw) (wd_61 hw) (wd_3 hw) (wd_62 hw) (by decide) (argsL := [(.int (own_cu [a0, a1, a2] [b0, b1] (3 : Int32) (2 : Int32)))]) (S := []) (m_sg hw (x0 := (own_cu [a0, a1, a2] [b0, b1] (3 : Int32) (2 : Int32)))) pd_8 rfl rfl rfl (by decide) (Nat.le_of_ble_eq_true rfl) (by decide) (by decide) (fun T h74 v74 L74 X q74 => ?_)
      obtain ⟨rfl, rfl⟩ := q74
      show Wp p e below _ (T.setTop (mkF m 126 #[.val (.int x), .val (.int y), .val (.int z), .val (.int w), .val (.int la), .val (.int lb), .val (.int a0), .val (.int a1), .val (.int a2), .val (.int b0), .val (.int b1), .val (.int b2), .val (.ref p71), .val (.ref p72), .unset, .unset] [(.int (own_sign (own_cu [a0, a1, a2] [b0, b1] (3 : Int32) (2 : Int32))))]))
      refine w_istore X #[.val (.int x), .val (.int y), .val (.int z), .val (.int w), .val (.int la), .val (.int lb), .val (.int a0), .val (.int a1), .val (.int a2), .val (.int b0), .val (.int b1), .val (.int b2), .val (.ref p71), .val (.ref p72), .val (.int (own_sign (own_cu [a0, a1, a2] [b0, b1] (3 : Int32) (2 : Int32)))), .unset] d_126 rfl ?_
      refine w_iload X d_128 rfl ?_
      refine w_iload X d_130 rfl ?_
      refine w_iload X d_132 rfl ?_
      refine w_iload X d_134 rfl ?_
      refine w_iload X d_136 rfl ?_
      refine w_iload X d_138 rfl ?_
      refine w_iload X d_140 rfl ?_
      refine w_iload X d_142 rfl ?_
      refine w_callS X d_144 (wd_63 hw) (wd_64 hw) (wd_3 hw) (wd_65 hw) (by decide) (argsL := [(.int la), (.int a0), (.int a1), (.int a2), (.int lb), (.int b0), (.int b1), (.int b2)]) (S := []) (m_ref hw (la := la) (e0 := a0) (e1 := a1) (e2 := a2) (lb := lb) (f0 := b0) (f1 := b1) (f2 := b2)) pd_22 rfl rfl rfl (by decide) (Nat.le_of_ble_eq_true rfl) (by decide) (by decide) (fun T h75 v75 L75 X q75 => ?_)
      obtain ⟨rfl, rfl⟩ := q75
      show Wp p e below _ (T.setTop (mkF m 147 #[.val (.int x), .val (.int y), .val (.int z), .val (.int w), .val (.int la), .val (.int lb), .val (.int a0), .val (.int a1), .val (.int a2), .val (.int b0), .val (.int b1), .val (.int b2), .val (.ref p71), .val (.ref p72), .val (.int (own_sign (own_cu [a0, a1, a2] [b0, b1] (3 : Int32) (2 : Int32)))), .unset] [(.int (own_ref la a0 a1 a2 lb b0 b1 b2))]))
      refine w_istore X #[.val (.int x), .val (.int y), .val (.int z), .val (.int w), .val (.int la), .val (.int lb), .val (.int a0), .val (.int a1), .val (.int a2), .val (.int b0), .val (.int b1), .val (.int b2), .val (.ref p71), .val (.ref p72), .val (.int (own_sign (own_cu [a0, a1, a2] [b0, b1] (3 : Int32) (2 : Int32)))), .val (.int (own_ref la a0 a1 a2 lb b0 b1 b2))] d_147 rfl ?_
      refine w_iload X d_149 rfl ?_
      refine w_iload X d_151 rfl ?_
      refine w_icmpne X d_153 (fun hc => absurd (by rw [hla, hlb]; exact own_fin_3_2 ha0 ha1 ha2 hb0 hb1 hb2) hc) (fun _ => ?_)
      refine w_iconst X (1 : Int32) d_156 rfl ?_
      refine w_goto X d_157 ?_
      exact v_ret_boolean X Y (1 : Int32) (by decide) d_161 rfl (by decide) (by decide)
    · refine w_iload X d_90 rfl ?_
      refine w_iload X d_92 rfl ?_
      refine w_iload X d_94 rfl ?_
      refine w_iload X d_96 rfl ?_
      refine g_callS X Y (fun vm' hW => (show Em Z Z.heap s.vm from Or.inl I0).warm hW) d_98 (wd_1 hw) (wd_2 hw) (wd_3 hw) (wd_4 hw) (by decide) (argsL := [(.int la), (.int a0), (.int a1), (.int a2)]) (S := []) (m_str_3 hw hU hheld hcw hla ha0 ha1 ha2) pd_20 rfl rfl rfl (by decide) (Nat.le_of_ble_eq_true rfl) (by decide) (by decide) (fun T h76 v76 L76 u kk X Y q76 => ?_)
      obtain ⟨p76, t76, rfl, Tx76, Kc76, M76⟩ := q76
      show Wp p e below _ (T.setTop (mkF m 101 #[.val (.int x), .val (.int y), .val (.int z), .val (.int w), .val (.int la), .val (.int lb), .val (.int a0), .val (.int a1), .val (.int a2), .val (.int b0), .val (.int b1), .val (.int b2), .unset, .unset, .unset, .unset] [(.ref p76)]))
      refine w_astore X #[.val (.int x), .val (.int y), .val (.int z), .val (.int w), .val (.int la), .val (.int lb), .val (.int a0), .val (.int a1), .val (.int a2), .val (.int b0), .val (.int b1), .val (.int b2), .val (.ref p76), .unset, .unset, .unset] d_101 (rfl) rfl ?_
      refine w_iload X d_103 rfl ?_
      refine w_iload X d_105 rfl ?_
      refine w_iload X d_107 rfl ?_
      refine w_iload X d_109 rfl ?_
      refine g_callS X Y (fun vm' hW => M76.warm hW) d_111 (wd_1 hw) (wd_2 hw) (wd_3 hw) (wd_4 hw) (by decide) (argsL := [(.int lb), (.int b0), (.int b1), (.int b2)]) (S := []) (m_str_3 hw hU hheld hcw hlb hb0 hb1 hb2) pd_20 rfl rfl rfl (by decide) (Nat.le_of_ble_eq_true rfl) (by decide) (by decide) (fun T h77 v77 L77 u kk X Y q77 => ?_)
      obtain ⟨p77, t77, rfl, Tx77, Kc77, M77⟩ := q77
      show Wp p e below _ (T.setTop (mkF m 114 #[.val (.int x), .val (.int y), .val (.int z), .val (.int w), .val (.int la), .val (.int lb), .val (.int a0), .val (.int a1), .val (.int a2), .val (.int b0), .val (.int b1), .val (.int b2), .val (.ref p76), .unset, .unset, .unset] [(.ref p77)]))
      refine w_astore X #[.val (.int x), .val (.int y), .val (.int z), .val (.int w), .val (.int la), .val (.int lb), .val (.int a0), .val (.int a1), .val (.int a2), .val (.int b0), .val (.int b1), .val (.int b2), .val (.ref p76), .val (.ref p77), .unset, .unset] d_114 (rfl) rfl ?_
      refine w_aload X d_116 rfl (rfl) ?_
      refine w_aload X d_118 rfl (rfl) ?_
      have f16 := (Tx76.keep Kc77 (List.not_mem_nil) (List.not_mem_nil))
      refine w_callS X d_120 (wd_38 hw) (wd_39 hw) (wd_40 hw) (wd_41 hw) (by decide) (argsL := [(.ref p76), (.ref p77)]) (S := []) (m_cu_3_3 hw hU f16 Tx77 ha0 ha1 ha2 hb0 hb1 hb2) pd_21 rfl rfl rfl (by decide) (Nat.le_of_ble_eq_true rfl) (by decide) (by decide) (fun T h78 v78 L78 X q78 => ?_)
      obtain ⟨rfl, rfl⟩ := q78
      show Wp p e below _ (T.setTop (mkF m 123 #[.val (.int x), .val (.int y), .val (.int z), .val (.int w), .val (.int la), .val (.int lb), .val (.int a0), .val (.int a1), .val (.int a2), .val (.int b0), .val (.int b1), .val (.int b2), .val (.ref p76), .val (.ref p77), .unset, .unset] [(.int (own_cu [a0, a1, a2] [b0, b1, b2] (3 : Int32) (3 : Int32)))]))
      refine w_callS X d_123 (wd_60 hw) (wd_61 hw) (wd_3 hw) (wd_62 hw) (by decide) (argsL := [(.int (own_cu [a0, a1, a2] [b0, b1, b2] (3 : Int32) (3 : Int32)))]) (S := []) (m_sg hw (x0 := (own_cu [a0, a1, a2] [b0, b1, b2] (3 : Int32) (3 : Int32)))) pd_8 rfl rfl rfl (by decide) (Nat.le_of_ble_eq_true rfl) (by decide) (by decide) (fun T h79 v79 L79 X q79 => ?_)
      obtain ⟨rfl, rfl⟩ := q79
      show Wp p e below _ (T.setTop (mkF m 126 #[.val (.int x), .val (.int y), .val (.int z), .val (.int w), .val (.int la), .val (.int lb), .val (.int a0), .val (.int a1), .val (.int a2), .val (.int b0), .val (.int b1), .val (.int b2), .val (.ref p76), .val (.ref p77), .unset, .unset] [(.int (own_sign (own_cu [a0, a1, a2] [b0, b1, b2] (3 : Int32) (3 : Int32))))]))
      refine w_istore X #[.val (.int x), .val (.int y), .val (.int z), .val (.int w), .val (.int la), .val (.int lb), .val (.int a0), .val (.int a1), .val (.int a2), .val (.int b0), .val (.int b1), .val (.int b2), .val (.ref p76), .val (.ref p77), .val (.int (own_sign (own_cu [a0, a1, a2] [b0, b1, b2] (3 : Int32) (3 : Int32)))), .unset] d_126 rfl ?_
      refine w_iload X d_128 rfl ?_
      refine w_iload X d_130 rfl ?_
      refine w_iload X d_132 rfl ?_
      refine w_iload X d_134 rfl ?_
      refine w_iload X d_136 rfl ?_
      refine w_iload X d_138 rfl ?_
      refine w_iload X d_140 rfl ?_
      refine w_iload X d_142 rfl ?_
      refine w_callS X d_144 (wd_63 hw) (wd_64 hw) (wd_3 hw) (wd_65 hw) (by decide) (argsL := [(.int la), (.int a0), (.int a1), (.int a2), (.int lb), (.int b0), (.int b1), (.int b2)]) (S := []) (m_ref hw (la := la) (e0 := a0) (e1 := a1) (e2 := a2) (lb := lb) (f0 := b0) (f1 := b1) (f2 := b2)) pd_22 rfl rfl rfl (by decide) (Nat.le_of_ble_eq_true rfl) (by decide) (by decide) (fun T h80 v80 L80 X q80 => ?_)
      obtain ⟨rfl, rfl⟩ := q80
      show Wp p e below _ (T.setTop (mkF m 147 #[.val (.int x), .val (.int y), .val (.int z), .val (.int w), .val (.int la), .val (.int lb), .val (.int a0), .val (.int a1), .val (.int a2), .val (.int b0), .val (.int b1), .val (.int b2), .val (.ref p76), .val (.ref p77), .val (.int (own_sign (own_cu [a0, a1, a2] [b0, b1, b2] (3 : Int32) (3 : Int32)))), .unset] [(.int (own_ref la a0 a1 a2 lb b0 b1 b2))]))
      refine w_istore X #[.val (.int x), .val (.int y), .val (.int z), .val (.int w), .val (.int la), .val (.int lb), .val (.int a0), .val (.int a1), .val (.int a2), .val (.int b0), .val (.int b1), .val (.int b2), .val (.ref p76), .val (.ref p77), .val (.int (own_sign (own_cu [a0, a1, a2] [b0, b1, b2] (3 : Int32) (3 : Int32)))), .val (.int (own_ref la a0 a1 a2 lb b0 b1 b2))] d_147 rfl ?_
      refine w_iload X d_149 rfl ?_
      refine w_iload X d_151 rfl ?_
      refine w_icmpne X d_153 (fun hc => absurd (by rw [hla, hlb]; exact own_fin_3_3 ha0 ha1 ha2 hb0 hb1 hb2) hc) (fun _ => ?_)
      refine w_iconst X (1 : Int32) d_156 rfl ?_
      refine w_goto X d_157 ?_
      exact v_ret_boolean X Y (1 : Int32) (by decide) d_161 rfl (by decide) (by decide)
set_option maxRecDepth 65536 in
set_option maxHeartbeats 40000000 in
theorem m_law {l : Launch} {Z : State} {a0 : Array Value} {n0 : Nat} (hw : ∀ d ∈ tables_1, d.before a0 Z = true) (hZs : Z.heap.size = n0) {zc : Int32} {fm : Value} (x y z w : Int32) (hU : own_U Z zc fm) (hheld : Jvm.Lit.constHeld Z "java/lang/String" 7) (hcw : Jvm.Lit.compactW.before a0 Z = true) :
    DoesL l Z n0 Jvm.Pilot.@@N@@.x code maxLocals ret tables_1 room_1 #[(.int x), (.int y), (.int z), (.int w)] (fun v _ => v = some (.int 1)) := by
  refine DoesL.start hZs (plainFor_of_name pn_1) ?_
  obtain ⟨hS, S_ad, S_hi, S_lo⟩ := id hU
  obtain ⟨S_zc, hzc, S_fm, hfm⟩ := id hS
  intro p e s m below meth c T X Y hsZ
  replace X : Sd Z n0 0 code 16 "com/example/whole_session/wholesession/RunCompareUtf8PinLaw" "law" (some .boolean) Z.heap p l e room_1 (s.setVm s.vm) m #[(.int x), (.int y), (.int z), (.int w)] below meth c T [] 0 0 := X
  have hs0 : s.heap.size = n0 := by rw [hsZ]; exact hZs
  have hkp : ∀ (b : Addr) (cl : Cell), Z.heap[b]? = some cl → s.heap[b]? = some cl := by rw [hsZ]; exact fun _ _ q => q
  have I0 : IB Z s.vm [] := by rw [hsZ]; exact IB.start
  refine Wp.cast (g' := mkF m 0 #[.val (.int x), .val (.int y), .val (.int z), .val (.int w), .unset, .unset, .unset, .unset, .unset, .unset, .unset, .unset, .unset, .unset, .unset, .unset] []) (by first | (simp [entryFrame, mkF, argsToLocals, Value.category, maxLocals]; done) | rfl) ?_
  refine w_iloadN X d_0 rfl ?_
  refine w_iconst X (3 : Int32) d_1 rfl ?_
  refine w_iand X d_2 ?_
  refine w_istore X #[.val (.int x), .val (.int y), .val (.int z), .val (.int w), .val (.int (w &&& (3 : Int32))), .unset, .unset, .unset, .unset, .unset, .unset, .unset, .unset, .unset, .unset, .unset] d_3 rfl ?_
  refine w_iloadN X d_5 rfl ?_
  refine w_iconst X (2 : Int32) d_6 rfl ?_
  refine w_iushr X d_7 ?_
  refine w_iconst X (3 : Int32) d_8 rfl ?_
  refine w_iand X d_9 ?_
  refine w_istore X #[.val (.int x), .val (.int y), .val (.int z), .val (.int w), .val (.int (w &&& (3 : Int32))), .val (.int (((w.toUInt32 >>> ((2 : Int32) &&& 31).toUInt32).toInt32) &&& (3 : Int32))), .unset, .unset, .unset, .unset, .unset, .unset, .unset, .unset, .unset, .unset] d_10 rfl ?_
  refine w_iloadN X d_12 rfl ?_
  refine w_ldcI X d_13 (wd_0 hw) ?_
  refine w_iand X d_15 ?_
  refine w_i2c X d_16 ?_
  refine w_istore X #[.val (.int x), .val (.int y), .val (.int z), .val (.int w), .val (.int (w &&& (3 : Int32))), .val (.int (((w.toUInt32 >>> ((2 : Int32) &&& 31).toUInt32).toInt32) &&& (3 : Int32))), .val (.int ((x &&& (65535 : Int32)).toUInt32.toUInt16.toUInt32.toInt32)), .unset, .unset, .unset, .unset, .unset, .unset, .unset, .unset, .unset] d_17 rfl ?_
  refine w_iloadN X d_19 rfl ?_
  refine w_bipush X (16 : Int32) d_20 rfl ?_
  refine w_iushr X d_22 ?_
  refine w_i2c X d_23 ?_
  refine w_istore X #[.val (.int x), .val (.int y), .val (.int z), .val (.int w), .val (.int (w &&& (3 : Int32))), .val (.int (((w.toUInt32 >>> ((2 : Int32) &&& 31).toUInt32).toInt32) &&& (3 : Int32))), .val (.int ((x &&& (65535 : Int32)).toUInt32.toUInt16.toUInt32.toInt32)), .val (.int (((x.toUInt32 >>> ((16 : Int32) &&& 31).toUInt32).toInt32).toUInt32.toUInt16.toUInt32.toInt32)), .unset, .unset, .unset, .unset, .unset, .unset, .unset, .unset] d_24 rfl ?_
  refine w_iloadN X d_26 rfl ?_
  refine w_ldcI X d_27 (wd_0 hw) ?_
  refine w_iand X d_29 ?_
  refine w_i2c X d_30 ?_
  refine w_istore X #[.val (.int x), .val (.int y), .val (.int z), .val (.int w), .val (.int (w &&& (3 : Int32))), .val (.int (((w.toUInt32 >>> ((2 : Int32) &&& 31).toUInt32).toInt32) &&& (3 : Int32))), .val (.int ((x &&& (65535 : Int32)).toUInt32.toUInt16.toUInt32.toInt32)), .val (.int (((x.toUInt32 >>> ((16 : Int32) &&& 31).toUInt32).toInt32).toUInt32.toUInt16.toUInt32.toInt32)), .val (.int ((z &&& (65535 : Int32)).toUInt32.toUInt16.toUInt32.toInt32)), .unset, .unset, .unset, .unset, .unset, .unset, .unset] d_31 rfl ?_
  refine w_iloadN X d_33 rfl ?_
  refine w_bipush X (16 : Int32) d_34 rfl ?_
  refine w_iand X d_36 ?_
  refine w_ifeq X d_37 (fun (hc37 : (w &&& (16 : Int32)) = (0 : Int32)) => ?_) (fun (hc37 : ¬ (w &&& (16 : Int32)) = (0 : Int32)) => ?_)
  · refine w_iloadN X d_45 rfl ?_
    refine w_ldcI X d_46 (wd_0 hw) ?_
    refine w_iand X d_48 ?_
    refine w_i2c X d_49 ?_
    refine w_istore X #[.val (.int x), .val (.int y), .val (.int z), .val (.int w), .val (.int (w &&& (3 : Int32))), .val (.int (((w.toUInt32 >>> ((2 : Int32) &&& 31).toUInt32).toInt32) &&& (3 : Int32))), .val (.int ((x &&& (65535 : Int32)).toUInt32.toUInt16.toUInt32.toInt32)), .val (.int (((x.toUInt32 >>> ((16 : Int32) &&& 31).toUInt32).toInt32).toUInt32.toUInt16.toUInt32.toInt32)), .val (.int ((z &&& (65535 : Int32)).toUInt32.toUInt16.toUInt32.toInt32)), .val (.int ((y &&& (65535 : Int32)).toUInt32.toUInt16.toUInt32.toInt32)), .unset, .unset, .unset, .unset, .unset, .unset] d_50 rfl ?_
    refine w_iloadN X d_52 rfl ?_
    refine w_bipush X (32 : Int32) d_53 rfl ?_
    refine w_iand X d_55 ?_
    refine w_ifeq X d_56 (fun (hc56 : (w &&& (32 : Int32)) = (0 : Int32)) => ?_) (fun (hc56 : ¬ (w &&& (32 : Int32)) = (0 : Int32)) => ?_)
    · refine w_iloadN X d_64 rfl ?_
      refine w_bipush X (16 : Int32) d_65 rfl ?_
      refine w_iushr X d_67 ?_
      refine w_i2c X d_68 ?_
      refine w_istore X #[.val (.int x), .val (.int y), .val (.int z), .val (.int w), .val (.int (w &&& (3 : Int32))), .val (.int (((w.toUInt32 >>> ((2 : Int32) &&& 31).toUInt32).toInt32) &&& (3 : Int32))), .val (.int ((x &&& (65535 : Int32)).toUInt32.toUInt16.toUInt32.toInt32)), .val (.int (((x.toUInt32 >>> ((16 : Int32) &&& 31).toUInt32).toInt32).toUInt32.toUInt16.toUInt32.toInt32)), .val (.int ((z &&& (65535 : Int32)).toUInt32.toUInt16.toUInt32.toInt32)), .val (.int ((y &&& (65535 : Int32)).toUInt32.toUInt16.toUInt32.toInt32)), .val (.int (((y.toUInt32 >>> ((16 : Int32) &&& 31).toUInt32).toInt32).toUInt32.toUInt16.toUInt32.toInt32)), .unset, .unset, .unset, .unset, .unset] d_69 rfl ?_
      refine w_iloadN X d_71 rfl ?_
      refine w_bipush X (64 : Int32) d_72 rfl ?_
      refine w_iand X d_74 ?_
      refine w_ifeq X d_75 (fun (hc75 : (w &&& (64 : Int32)) = (0 : Int32)) => ?_) (fun (hc75 : ¬ (w &&& (64 : Int32)) = (0 : Int32)) => ?_)
      · refine w_iloadN X d_83 rfl ?_
        refine w_bipush X (16 : Int32) d_84 rfl ?_
        refine w_iushr X d_86 ?_
        refine w_i2c X d_87 ?_
        refine w_istore X #[.val (.int x), .val (.int y), .val (.int z), .val (.int w), .val (.int (w &&& (3 : Int32))), .val (.int (((w.toUInt32 >>> ((2 : Int32) &&& 31).toUInt32).toInt32) &&& (3 : Int32))), .val (.int ((x &&& (65535 : Int32)).toUInt32.toUInt16.toUInt32.toInt32)), .val (.int (((x.toUInt32 >>> ((16 : Int32) &&& 31).toUInt32).toInt32).toUInt32.toUInt16.toUInt32.toInt32)), .val (.int ((z &&& (65535 : Int32)).toUInt32.toUInt16.toUInt32.toInt32)), .val (.int ((y &&& (65535 : Int32)).toUInt32.toUInt16.toUInt32.toInt32)), .val (.int (((y.toUInt32 >>> ((16 : Int32) &&& 31).toUInt32).toInt32).toUInt32.toUInt16.toUInt32.toInt32)), .val (.int (((z.toUInt32 >>> ((16 : Int32) &&& 31).toUInt32).toInt32).toUInt32.toUInt16.toUInt32.toInt32)), .unset, .unset, .unset, .unset] d_88 rfl ?_
        exact m_lawp hw hZs hU hheld hcw X Y I0 (own_and3 _) (own_and3 _) (own_nar_c _) (own_nar_c _) (own_nar_c _) (own_nar_c _) (own_nar_c _) (own_nar_c _)
      · refine w_iload X d_78 rfl ?_
        refine w_goto X d_80 ?_
        refine w_istore X #[.val (.int x), .val (.int y), .val (.int z), .val (.int w), .val (.int (w &&& (3 : Int32))), .val (.int (((w.toUInt32 >>> ((2 : Int32) &&& 31).toUInt32).toInt32) &&& (3 : Int32))), .val (.int ((x &&& (65535 : Int32)).toUInt32.toUInt16.toUInt32.toInt32)), .val (.int (((x.toUInt32 >>> ((16 : Int32) &&& 31).toUInt32).toInt32).toUInt32.toUInt16.toUInt32.toInt32)), .val (.int ((z &&& (65535 : Int32)).toUInt32.toUInt16.toUInt32.toInt32)), .val (.int ((y &&& (65535 : Int32)).toUInt32.toUInt16.toUInt32.toInt32)), .val (.int (((y.toUInt32 >>> ((16 : Int32) &&& 31).toUInt32).toInt32).toUInt32.toUInt16.toUInt32.toInt32)), .val (.int ((z &&& (65535 : Int32)).toUInt32.toUInt16.toUInt32.toInt32)), .unset, .unset, .unset, .unset] d_88 rfl ?_
        exact m_lawp hw hZs hU hheld hcw X Y I0 (own_and3 _) (own_and3 _) (own_nar_c _) (own_nar_c _) (own_nar_c _) (own_nar_c _) (own_nar_c _) (own_nar_c _)
    · refine w_iload X d_59 rfl ?_
      refine w_goto X d_61 ?_
      refine w_istore X #[.val (.int x), .val (.int y), .val (.int z), .val (.int w), .val (.int (w &&& (3 : Int32))), .val (.int (((w.toUInt32 >>> ((2 : Int32) &&& 31).toUInt32).toInt32) &&& (3 : Int32))), .val (.int ((x &&& (65535 : Int32)).toUInt32.toUInt16.toUInt32.toInt32)), .val (.int (((x.toUInt32 >>> ((16 : Int32) &&& 31).toUInt32).toInt32).toUInt32.toUInt16.toUInt32.toInt32)), .val (.int ((z &&& (65535 : Int32)).toUInt32.toUInt16.toUInt32.toInt32)), .val (.int ((y &&& (65535 : Int32)).toUInt32.toUInt16.toUInt32.toInt32)), .val (.int (((x.toUInt32 >>> ((16 : Int32) &&& 31).toUInt32).toInt32).toUInt32.toUInt16.toUInt32.toInt32)), .unset, .unset, .unset, .unset, .unset] d_69 rfl ?_
      refine w_iloadN X d_71 rfl ?_
      refine w_bipush X (64 : Int32) d_72 rfl ?_
      refine w_iand X d_74 ?_
      refine w_ifeq X d_75 (fun (hc75 : (w &&& (64 : Int32)) = (0 : Int32)) => ?_) (fun (hc75 : ¬ (w &&& (64 : Int32)) = (0 : Int32)) => ?_)
      · refine w_iloadN X d_83 rfl ?_
        refine w_bipush X (16 : Int32) d_84 rfl ?_
        refine w_iushr X d_86 ?_
        refine w_i2c X d_87 ?_
        refine w_istore X #[.val (.int x), .val (.int y), .val (.int z), .val (.int w), .val (.int (w &&& (3 : Int32))), .val (.int (((w.toUInt32 >>> ((2 : Int32) &&& 31).toUInt32).toInt32) &&& (3 : Int32))), .val (.int ((x &&& (65535 : Int32)).toUInt32.toUInt16.toUInt32.toInt32)), .val (.int (((x.toUInt32 >>> ((16 : Int32) &&& 31).toUInt32).toInt32).toUInt32.toUInt16.toUInt32.toInt32)), .val (.int ((z &&& (65535 : Int32)).toUInt32.toUInt16.toUInt32.toInt32)), .val (.int ((y &&& (65535 : Int32)).toUInt32.toUInt16.toUInt32.toInt32)), .val (.int (((x.toUInt32 >>> ((16 : Int32) &&& 31).toUInt32).toInt32).toUInt32.toUInt16.toUInt32.toInt32)), .val (.int (((z.toUInt32 >>> ((16 : Int32) &&& 31).toUInt32).toInt32).toUInt32.toUInt16.toUInt32.toInt32)), .unset, .unset, .unset, .unset] d_88 rfl ?_
        exact m_lawp hw hZs hU hheld hcw X Y I0 (own_and3 _) (own_and3 _) (own_nar_c _) (own_nar_c _) (own_nar_c _) (own_nar_c _) (own_nar_c _) (own_nar_c _)
      · refine w_iload X d_78 rfl ?_
        refine w_goto X d_80 ?_
        refine w_istore X #[.val (.int x), .val (.int y), .val (.int z), .val (.int w), .val (.int (w &&& (3 : Int32))), .val (.int (((w.toUInt32 >>> ((2 : Int32) &&& 31).toUInt32).toInt32) &&& (3 : Int32))), .val (.int ((x &&& (65535 : Int32)).toUInt32.toUInt16.toUInt32.toInt32)), .val (.int (((x.toUInt32 >>> ((16 : Int32) &&& 31).toUInt32).toInt32).toUInt32.toUInt16.toUInt32.toInt32)), .val (.int ((z &&& (65535 : Int32)).toUInt32.toUInt16.toUInt32.toInt32)), .val (.int ((y &&& (65535 : Int32)).toUInt32.toUInt16.toUInt32.toInt32)), .val (.int (((x.toUInt32 >>> ((16 : Int32) &&& 31).toUInt32).toInt32).toUInt32.toUInt16.toUInt32.toInt32)), .val (.int ((z &&& (65535 : Int32)).toUInt32.toUInt16.toUInt32.toInt32)), .unset, .unset, .unset, .unset] d_88 rfl ?_
        exact m_lawp hw hZs hU hheld hcw X Y I0 (own_and3 _) (own_and3 _) (own_nar_c _) (own_nar_c _) (own_nar_c _) (own_nar_c _) (own_nar_c _) (own_nar_c _)
  · refine w_iload X d_40 rfl ?_
    refine w_goto X d_42 ?_
    refine w_istore X #[.val (.int x), .val (.int y), .val (.int z), .val (.int w), .val (.int (w &&& (3 : Int32))), .val (.int (((w.toUInt32 >>> ((2 : Int32) &&& 31).toUInt32).toInt32) &&& (3 : Int32))), .val (.int ((x &&& (65535 : Int32)).toUInt32.toUInt16.toUInt32.toInt32)), .val (.int (((x.toUInt32 >>> ((16 : Int32) &&& 31).toUInt32).toInt32).toUInt32.toUInt16.toUInt32.toInt32)), .val (.int ((z &&& (65535 : Int32)).toUInt32.toUInt16.toUInt32.toInt32)), .val (.int ((x &&& (65535 : Int32)).toUInt32.toUInt16.toUInt32.toInt32)), .unset, .unset, .unset, .unset, .unset, .unset] d_50 rfl ?_
    refine w_iloadN X d_52 rfl ?_
    refine w_bipush X (32 : Int32) d_53 rfl ?_
    refine w_iand X d_55 ?_
    refine w_ifeq X d_56 (fun (hc56 : (w &&& (32 : Int32)) = (0 : Int32)) => ?_) (fun (hc56 : ¬ (w &&& (32 : Int32)) = (0 : Int32)) => ?_)
    · refine w_iloadN X d_64 rfl ?_
      refine w_bipush X (16 : Int32) d_65 rfl ?_
      refine w_iushr X d_67 ?_
      refine w_i2c X d_68 ?_
      refine w_istore X #[.val (.int x), .val (.int y), .val (.int z), .val (.int w), .val (.int (w &&& (3 : Int32))), .val (.int (((w.toUInt32 >>> ((2 : Int32) &&& 31).toUInt32).toInt32) &&& (3 : Int32))), .val (.int ((x &&& (65535 : Int32)).toUInt32.toUInt16.toUInt32.toInt32)), .val (.int (((x.toUInt32 >>> ((16 : Int32) &&& 31).toUInt32).toInt32).toUInt32.toUInt16.toUInt32.toInt32)), .val (.int ((z &&& (65535 : Int32)).toUInt32.toUInt16.toUInt32.toInt32)), .val (.int ((x &&& (65535 : Int32)).toUInt32.toUInt16.toUInt32.toInt32)), .val (.int (((y.toUInt32 >>> ((16 : Int32) &&& 31).toUInt32).toInt32).toUInt32.toUInt16.toUInt32.toInt32)), .unset, .unset, .unset, .unset, .unset] d_69 rfl ?_
      refine w_iloadN X d_71 rfl ?_
      refine w_bipush X (64 : Int32) d_72 rfl ?_
      refine w_iand X d_74 ?_
      refine w_ifeq X d_75 (fun (hc75 : (w &&& (64 : Int32)) = (0 : Int32)) => ?_) (fun (hc75 : ¬ (w &&& (64 : Int32)) = (0 : Int32)) => ?_)
      · refine w_iloadN X d_83 rfl ?_
        refine w_bipush X (16 : Int32) d_84 rfl ?_
        refine w_iushr X d_86 ?_
        refine w_i2c X d_87 ?_
        refine w_istore X #[.val (.int x), .val (.int y), .val (.int z), .val (.int w), .val (.int (w &&& (3 : Int32))), .val (.int (((w.toUInt32 >>> ((2 : Int32) &&& 31).toUInt32).toInt32) &&& (3 : Int32))), .val (.int ((x &&& (65535 : Int32)).toUInt32.toUInt16.toUInt32.toInt32)), .val (.int (((x.toUInt32 >>> ((16 : Int32) &&& 31).toUInt32).toInt32).toUInt32.toUInt16.toUInt32.toInt32)), .val (.int ((z &&& (65535 : Int32)).toUInt32.toUInt16.toUInt32.toInt32)), .val (.int ((x &&& (65535 : Int32)).toUInt32.toUInt16.toUInt32.toInt32)), .val (.int (((y.toUInt32 >>> ((16 : Int32) &&& 31).toUInt32).toInt32).toUInt32.toUInt16.toUInt32.toInt32)), .val (.int (((z.toUInt32 >>> ((16 : Int32) &&& 31).toUInt32).toInt32).toUInt32.toUInt16.toUInt32.toInt32)), .unset, .unset, .unset, .unset] d_88 rfl ?_
        exact m_lawp hw hZs hU hheld hcw X Y I0 (own_and3 _) (own_and3 _) (own_nar_c _) (own_nar_c _) (own_nar_c _) (own_nar_c _) (own_nar_c _) (own_nar_c _)
      · refine w_iload X d_78 rfl ?_
        refine w_goto X d_80 ?_
        refine w_istore X #[.val (.int x), .val (.int y), .val (.int z), .val (.int w), .val (.int (w &&& (3 : Int32))), .val (.int (((w.toUInt32 >>> ((2 : Int32) &&& 31).toUInt32).toInt32) &&& (3 : Int32))), .val (.int ((x &&& (65535 : Int32)).toUInt32.toUInt16.toUInt32.toInt32)), .val (.int (((x.toUInt32 >>> ((16 : Int32) &&& 31).toUInt32).toInt32).toUInt32.toUInt16.toUInt32.toInt32)), .val (.int ((z &&& (65535 : Int32)).toUInt32.toUInt16.toUInt32.toInt32)), .val (.int ((x &&& (65535 : Int32)).toUInt32.toUInt16.toUInt32.toInt32)), .val (.int (((y.toUInt32 >>> ((16 : Int32) &&& 31).toUInt32).toInt32).toUInt32.toUInt16.toUInt32.toInt32)), .val (.int ((z &&& (65535 : Int32)).toUInt32.toUInt16.toUInt32.toInt32)), .unset, .unset, .unset, .unset] d_88 rfl ?_
        exact m_lawp hw hZs hU hheld hcw X Y I0 (own_and3 _) (own_and3 _) (own_nar_c _) (own_nar_c _) (own_nar_c _) (own_nar_c _) (own_nar_c _) (own_nar_c _)
    · refine w_iload X d_59 rfl ?_
      refine w_goto X d_61 ?_
      refine w_istore X #[.val (.int x), .val (.int y), .val (.int z), .val (.int w), .val (.int (w &&& (3 : Int32))), .val (.int (((w.toUInt32 >>> ((2 : Int32) &&& 31).toUInt32).toInt32) &&& (3 : Int32))), .val (.int ((x &&& (65535 : Int32)).toUInt32.toUInt16.toUInt32.toInt32)), .val (.int (((x.toUInt32 >>> ((16 : Int32) &&& 31).toUInt32).toInt32).toUInt32.toUInt16.toUInt32.toInt32)), .val (.int ((z &&& (65535 : Int32)).toUInt32.toUInt16.toUInt32.toInt32)), .val (.int ((x &&& (65535 : Int32)).toUInt32.toUInt16.toUInt32.toInt32)), .val (.int (((x.toUInt32 >>> ((16 : Int32) &&& 31).toUInt32).toInt32).toUInt32.toUInt16.toUInt32.toInt32)), .unset, .unset, .unset, .unset, .unset] d_69 rfl ?_
      refine w_iloadN X d_71 rfl ?_
      refine w_bipush X (64 : Int32) d_72 rfl ?_
      refine w_iand X d_74 ?_
      refine w_ifeq X d_75 (fun (hc75 : (w &&& (64 : Int32)) = (0 : Int32)) => ?_) (fun (hc75 : ¬ (w &&& (64 : Int32)) = (0 : Int32)) => ?_)
      · refine w_iloadN X d_83 rfl ?_
        refine w_bipush X (16 : Int32) d_84 rfl ?_
        refine w_iushr X d_86 ?_
        refine w_i2c X d_87 ?_
        refine w_istore X #[.val (.int x), .val (.int y), .val (.int z), .val (.int w), .val (.int (w &&& (3 : Int32))), .val (.int (((w.toUInt32 >>> ((2 : Int32) &&& 31).toUInt32).toInt32) &&& (3 : Int32))), .val (.int ((x &&& (65535 : Int32)).toUInt32.toUInt16.toUInt32.toInt32)), .val (.int (((x.toUInt32 >>> ((16 : Int32) &&& 31).toUInt32).toInt32).toUInt32.toUInt16.toUInt32.toInt32)), .val (.int ((z &&& (65535 : Int32)).toUInt32.toUInt16.toUInt32.toInt32)), .val (.int ((x &&& (65535 : Int32)).toUInt32.toUInt16.toUInt32.toInt32)), .val (.int (((x.toUInt32 >>> ((16 : Int32) &&& 31).toUInt32).toInt32).toUInt32.toUInt16.toUInt32.toInt32)), .val (.int (((z.toUInt32 >>> ((16 : Int32) &&& 31).toUInt32).toInt32).toUInt32.toUInt16.toUInt32.toInt32)), .unset, .unset, .unset, .unset] d_88 rfl ?_
        exact m_lawp hw hZs hU hheld hcw X Y I0 (own_and3 _) (own_and3 _) (own_nar_c _) (own_nar_c _) (own_nar_c _) (own_nar_c _) (own_nar_c _) (own_nar_c _)
      · refine w_iload X d_78 rfl ?_
        refine w_goto X d_80 ?_
        refine w_istore X #[.val (.int x), .val (.int y), .val (.int z), .val (.int w), .val (.int (w &&& (3 : Int32))), .val (.int (((w.toUInt32 >>> ((2 : Int32) &&& 31).toUInt32).toInt32) &&& (3 : Int32))), .val (.int ((x &&& (65535 : Int32)).toUInt32.toUInt16.toUInt32.toInt32)), .val (.int (((x.toUInt32 >>> ((16 : Int32) &&& 31).toUInt32).toInt32).toUInt32.toUInt16.toUInt32.toInt32)), .val (.int ((z &&& (65535 : Int32)).toUInt32.toUInt16.toUInt32.toInt32)), .val (.int ((x &&& (65535 : Int32)).toUInt32.toUInt16.toUInt32.toInt32)), .val (.int (((x.toUInt32 >>> ((16 : Int32) &&& 31).toUInt32).toInt32).toUInt32.toUInt16.toUInt32.toInt32)), .val (.int ((z &&& (65535 : Int32)).toUInt32.toUInt16.toUInt32.toInt32)), .unset, .unset, .unset, .unset] d_88 rfl ?_
        exact m_lawp hw hZs hU hheld hcw X Y I0 (own_and3 _) (own_and3 _) (own_nar_c _) (own_nar_c _) (own_nar_c _) (own_nar_c _) (own_nar_c _) (own_nar_c _)
set_option maxRecDepth 65536 in
set_option maxHeartbeats 40000000 in
theorem comes_1 {Post : Tables → Env → Array Value → State → Outcome → State → Prop} (hpost : ∀ tb e args s v u, (limb_1_1.after args s (.returned v) u = true ∧ limb_1_2.after args s (.returned v) u = true ∧ True) → ReturnedEndW s (.returned v) u (Jvm.fieldLocs frame_1_writes args s ++ Jvm.arrayLocs frame_1_arrays args s ++ Jvm.staticLocs frame_1_statics s) 32 1216 → Post tb e args s (.returned v) u) :
    ArmFor flags0 classFile x code maxLocals ret World_1 tables_1 room_1 Calls_1 rest_1 Pre_1 Post := by
  intro l hfl _ _ p e ha hc hk s m args below hf hA hF happ hP
  obtain ⟨hcalls, hrest, hpre⟩ := hP
  obtain ⟨-, -, -, hnamed, -, -, -, hat⟩ := (Spec.applies_iff hf).mp happ
  obtain ⟨hg, hn⟩ := and_e (Cond.before_iff.mp (show (Jvm.Cond.and given_1 narrow_1).before args s = true from hpre))
  obtain ⟨hcount, hg1⟩ := and_e hg
  obtain ⟨ha0, hg2⟩ := and_e hg1
  obtain ⟨ha1, hg3⟩ := and_e hg2
  obtain ⟨ha2, hg4⟩ := and_e hg3
  have ha3 := hg4
  obtain ⟨w0, w1, w2, w3, rfl⟩ : ∃ w0 w1 w2 w3 : Value, args = #[w0, w1, w2, w3] := by
    have hs : args.size = 4 := by simpa [Cond.value, given_1] using hcount
    obtain ⟨L⟩ := args
    match L, hs with
    | [w0, w1, w2, w3], _ => exact ⟨w0, w1, w2, w3, rfl⟩
  have hw := fun d (hd : d ∈ tables_1) => atoms_spec (ws := Jvm.Cond.code x code maxLocals ret :: tables_1) hat d (List.mem_cons_of_mem _ hd)
  have hfit : Fit s := fun {y c} hc i hi => by
    obtain ⟨ha, rfl⟩ := Array.getElem?_eq_some_iff.mp hc
    have q := List.all_eq_true.mp ((Array.all_eq_true_iff_forall_mem.mp hF) _ (Array.getElem_mem ha)) i (List.mem_range.mpr hi)
    simpa [Array.getElem?_eq_getElem hi] using q
  obtain ⟨hsets, hown0⟩ := atoms_of _ (rest_1_c_eq ▸ (show rest_1_c.before _ s = true from hrest))
  have hr0 := Cond.before_iff.mp hown0
  obtain ⟨i0, ei0⟩ := is_v ha0
  obtain rfl : w0 = (.int i0) := Option.some.inj ei0
  obtain ⟨i1, ei1⟩ := is_v ha1
  obtain rfl : w1 = (.int i1) := Option.some.inj ei1
  obtain ⟨i2, ei2⟩ := is_v ha2
  obtain rfl : w2 = (.int i2) := Option.some.inj ei2
  obtain ⟨i3, ei3⟩ := is_v ha3
  obtain rfl : w3 = (.int i3) := Option.some.inj ei3
  obtain ⟨zc, ezc⟩ := is_v (Cond.before_iff.mp (hsets _ (List.mem_of_getElem? (i := 1) rfl)))
  have S_zc : Sta s s.heap "java/lang/String" "COMPACT_STRINGS" "Z" (.int zc) := Sta.start ezc (Or.inl (hsets _ (List.mem_of_getElem? (i := 0) rfl)))
  have hcw : Jvm.Lit.compactW.before _ s = true := (hsets _ (List.mem_of_getElem? (i := 2) rfl))
  have hzc : ¬ zc = 0 := gotF (own_eqI ezc rfl) (not_v (Cond.before_iff.mp hcw))
  obtain ⟨fm, efm, hfm⟩ := isR_v (Cond.before_iff.mp (hsets _ (List.mem_of_getElem? (i := 8) rfl)))
  have S_fm : Sta s s.heap "jdk/internal/util/Preconditions" "SIOOBE_FORMATTER" "Ljava/util/function/BiFunction;" fm := Sta.start efm (Or.inl (hsets _ (List.mem_of_getElem? (i := 7) rfl)))
  have S_ad : Sta s s.heap "java/lang/StringUTF16" "$assertionsDisabled" "Z" (.int (1 : Int32)) := own_stI (Cond.before_iff.mp (hsets _ (List.mem_of_getElem? (i := 12) rfl))) (Or.inl (hsets _ (List.mem_of_getElem? (i := 11) rfl)))
  have S_hi : Sta s s.heap "java/lang/StringUTF16" "HI_BYTE_SHIFT" "I" (.int (0 : Int32)) := own_stI (Cond.before_iff.mp (hsets _ (List.mem_of_getElem? (i := 15) rfl))) (Or.inl (hsets _ (List.mem_of_getElem? (i := 14) rfl)))
  have S_lo : Sta s s.heap "java/lang/StringUTF16" "LO_BYTE_SHIFT" "I" (.int (8 : Int32)) := own_stI (Cond.before_iff.mp (hsets _ (List.mem_of_getElem? (i := 18) rfl))) (Or.inl (hsets _ (List.mem_of_getElem? (i := 17) rfl)))
  obtain ⟨n, o, h1, h2, h3, v, L, rfl, ⟨N, -, -, rfl⟩, hq⟩ := m_law (l := l) (Z := s) (n0 := s.heap.size) hw rfl i0 i1 i2 i3 ⟨⟨S_zc, hzc, S_fm, hfm⟩, S_ad, S_hi, S_lo⟩ (hcalls.1 _ (List.mem_of_getElem? (i := 0) rfl)) hcw p e ha hc hk s m _ below hf ((Spec.applies_iff_loose hf).mp happ).1 ⟨rfl, rfl⟩ trivial
  refine ⟨n, _, h1, h2, h3, hpost _ _ _ _ _ _ ⟨Cond.after_iff.mpr rfl, Cond.after_iff.mpr (eq_i res_at (Term.int_eval (1)) rfl), trivial⟩ ⟨hq.1, hq.2.1, hq.2.2.1, (hq.2.2.2.sift fun y hy => Or.inr (N y hy)).mono (by decide) (by decide)⟩⟩
theorem main_1_1 : Claimed_1_1 := comes_1 fun _ _ _ _ _ _ h hF => ⟨h.1, hF⟩
theorem main_1_2 : Claimed_1_2 := comes_1 fun _ _ _ _ _ _ h hF => ⟨h.2.1, hF⟩
end Jvm.Pilot.@@N@@
namespace Jvm.Pilot.@@N@@
open Jvm Jvm.ClassFile Sem Op Lib Jvm.Free Jvm.Stand Jvm.Pilot.@@N@@.Jvm.D
/-! MADE BY PROGRAM (witnessworld.py) out of the Statement's table words and the real class files: 24 classes; the members and pool entries that the words name. The judged class is class 1, her method 1. -/
namespace start1
open Jvm.ClassFile
def u (s : String) : CpInfo := .utf8 (stringToUtf16 s)
/-- a pool by its gaps: so many unusable entries, then the entry; so many at the end -/
def gap : Nat → List CpInfo → List CpInfo
  | 0, r => r
  | n + 1, r => .unusable :: gap n r
def poolList (es : List (Nat × CpInfo)) (last : Nat) : List CpInfo := es.foldr (fun e r => gap e.1 (e.2 :: r)) (gap last [])
def pool (es : List (Nat × CpInfo)) (last : Nat) : Array CpInfo := ⟨poolList es last⟩
def fileOf (pool : Array CpInfo) (this : Nat) (attrs : Array Attribute := #[]) (ms : Array MethodInfo := #[]) (fl : Nat := 33) (sup : Nat := 0) (ifs : Array Nat := #[]) (fds : Array FieldInfo := #[]) : ClassFile where
  minorVersion := 0
  majorVersion := 65
  constantPool := pool
  accessFlags := fl
  thisClass := this
  superClass := sup
  interfaces := ifs
  fields := fds
  methods := ms
  attributes := attrs
def plain (name : String) (sup : Option ClassId) : Class where
  name := name
  kind := .ordinary
  loader := none
  accessFlags := 33
  super := sup
  interfaces := #[]
  cf := none
  fields := #[]
  methods := #[]
  instanceTypes := #[]
  staticTypes := #[]
  resolved := #[]
  callSites := []
  init := .initialized
  statics := none
  mirror := none

def pool0 : Array CpInfo := pool [(5, u "<init>"), (0, u "()V"), (1, .class_ 10), (1, u "java/lang/Object")] 113

def k0c0 : Code := { maxStack := 0, maxLocals := 1, code := object_method_1_code, exceptionTable := #[], attributes := #[] }
def k0m0 : Method := { name := "<init>", desc := "()V", sig := { parameters := [], returnType := none }, accessFlags := 1, code := some k0c0 }
/-- java/lang/Object -/
def k0 : Class := { plain "java/lang/Object" none with
  accessFlags := 33
  interfaces := #[]
  cf := some (fileOf pool0 8 #[] #[{ accessFlags := 1, nameIndex := 5, descriptorIndex := 6, attributes := #[] }] 33 0 #[] #[])
  fields := #[]
  methods := #[k0m0]
  instanceTypes := #[]
  staticTypes := #[]
  resolved := Array.replicate 124 none
  statics := none }

def pool1 : Array CpInfo := pool [(2, .class_ 4), (1, u "java/lang/Object"), (0, u "<init>"), (0, u "()V"), (0, .integer 65535), (0, .methodref 9 10), (0, .class_ 11), (0, .nameAndType 12 13), (0, u "com/example/whole_session/wholesession/RunCompareUtf8PinLaw"), (0, u "str"), (0, u "(ICCC)Ljava/lang/String;"), (0, .methodref 15 16), (0, .class_ 17), (0, .nameAndType 18 19), (0, u "com/example/whole_session/wholesession/Run"), (0, u "compareUtf8"), (0, u "(Ljava/lang/String;Ljava/lang/String;)I"), (0, .methodref 9 21), (0, .nameAndType 22 23), (0, u "sign"), (0, u "(I)I"), (0, .methodref 9 25), (0, .nameAndType 26 27), (0, u "reference"), (0, u "(ICCCICCC)I"), (0, .class_ 29), (0, u "java/lang/String"), (0, .methodref 28 31), (0, .nameAndType 5 32), (0, u "([C)V"), (0, .integer 55296), (0, .integer 57344), (0, .methodref 36 37), (0, .class_ 38), (0, .nameAndType 39 40), (0, u "java/lang/Math"), (0, u "min"), (0, u "(II)I"), (0, .methodref 9 42), (0, .nameAndType 43 44), (0, u "rank"), (0, u "(C)I"), (2, u "law"), (0, u "(IIII)Z")] 3

def k1m0 : Method := { name := "<init>", desc := "()V", sig := { parameters := [], returnType := none }, accessFlags := 2, code := none }
def k1c1 : Code := { maxStack := 8, maxLocals := 16, code := code, exceptionTable := #[], attributes := #[] }
def k1m1 : Method := { name := "law", desc := "(IIII)Z", sig := { parameters := [.int, .int, .int, .int], returnType := some .boolean }, accessFlags := 9, code := some k1c1 }
def k1c2 : Code := { maxStack := 6, maxLocals := 4, code := method_3_code, exceptionTable := #[], attributes := #[] }
def k1m2 : Method := { name := "str", desc := "(ICCC)Ljava/lang/String;", sig := { parameters := [.int, .char, .char, .char], returnType := some (.object "java/lang/String") }, accessFlags := 10, code := some k1c2 }
def k1c3 : Code := { maxStack := 1, maxLocals := 1, code := method_4_code, exceptionTable := #[], attributes := #[] }
def k1m3 : Method := { name := "sign", desc := "(I)I", sig := { parameters := [.int], returnType := some .int }, accessFlags := 10, code := some k1c3 }
def k1c4 : Code := { maxStack := 2, maxLocals := 1, code := method_5_code, exceptionTable := #[], attributes := #[] }
def k1m4 : Method := { name := "rank", desc := "(C)I", sig := { parameters := [.char], returnType := some .int }, accessFlags := 10, code := some k1c4 }
def k1c5 : Code := { maxStack := 2, maxLocals := 9, code := method_6_code, exceptionTable := #[], attributes := #[] }
def k1m5 : Method := { name := "reference", desc := "(ICCCICCC)I", sig := { parameters := [.int, .char, .char, .char, .int, .char, .char, .char], returnType := some .int }, accessFlags := 10, code := some k1c5 }
/-- com/example/whole_session/wholesession/RunCompareUtf8PinLaw -/
def k1 : Class := { plain "com/example/whole_session/wholesession/RunCompareUtf8PinLaw" (some 0) with
  accessFlags := 49
  interfaces := #[]
  cf := some (fileOf pool1 9 #[] #[{ accessFlags := 2, nameIndex := 5, descriptorIndex := 6, attributes := #[] }, { accessFlags := 9, nameIndex := 47, descriptorIndex := 48, attributes := #[] }, { accessFlags := 10, nameIndex := 12, descriptorIndex := 13, attributes := #[] }, { accessFlags := 10, nameIndex := 22, descriptorIndex := 23, attributes := #[] }, { accessFlags := 10, nameIndex := 43, descriptorIndex := 44, attributes := #[] }, { accessFlags := 10, nameIndex := 26, descriptorIndex := 27, attributes := #[] }] 49 2 #[] #[])
  fields := #[]
  methods := #[k1m0, k1m1, k1m2, k1m3, k1m4, k1m5]
  instanceTypes := #[]
  staticTypes := #[]
  resolved := Array.replicate 52 none
  statics := none }

def pool2 : Array CpInfo := pool [(1, .class_ 2), (0, u "java/io/Serializable"), (0, .class_ 4), (0, u "java/lang/Object")] 2

/-- java/io/Serializable -/
def k2 : Class := { plain "java/io/Serializable" (some 0) with
  accessFlags := 1537
  interfaces := #[]
  cf := some (fileOf pool2 1 #[] #[] 1537 3 #[] #[])
  fields := #[]
  methods := #[]
  instanceTypes := #[]
  staticTypes := #[]
  resolved := Array.replicate 7 none
  statics := none }

def pool3 : Array CpInfo := pool [(1, .class_ 2), (0, u "java/lang/Comparable"), (0, .class_ 4), (0, u "java/lang/Object")] 7

/-- java/lang/Comparable -/
def k3 : Class := { plain "java/lang/Comparable" (some 0) with
  accessFlags := 1537
  interfaces := #[]
  cf := some (fileOf pool3 1 #[] #[] 1537 3 #[] #[])
  fields := #[]
  methods := #[]
  instanceTypes := #[]
  staticTypes := #[]
  resolved := Array.replicate 12 none
  statics := none }

def pool4 : Array CpInfo := pool [(2, .class_ 4), (1, u "java/lang/CharSequence"), (42, .class_ 48), (0, u "java/lang/CharSequence$1CodePointIterator"), (10, .class_ 60), (0, u "java/lang/CharSequence$1CharIterator"), (5, .class_ 67), (0, u "java/lang/Object")] 63

/-- java/lang/CharSequence -/
def k4 : Class := { plain "java/lang/CharSequence" (some 0) with
  accessFlags := 1537
  interfaces := #[]
  cf := some (fileOf pool4 2 #[.nestMembers #[47, 59]] #[] 1537 66 #[] #[])
  fields := #[]
  methods := #[]
  instanceTypes := #[]
  staticTypes := #[]
  resolved := Array.replicate 131 none
  statics := none }

def pool5 : Array CpInfo := pool [(1, .class_ 2), (0, u "java/lang/constant/Constable"), (0, .class_ 4), (0, u "java/lang/Object")] 6

/-- java/lang/constant/Constable -/
def k5 : Class := { plain "java/lang/constant/Constable" (some 0) with
  accessFlags := 1537
  interfaces := #[]
  cf := some (fileOf pool5 1 #[] #[] 1537 3 #[] #[])
  fields := #[]
  methods := #[]
  instanceTypes := #[]
  staticTypes := #[]
  resolved := Array.replicate 11 none
  statics := none }

def pool6 : Array CpInfo := pool [(1, .class_ 2), (0, u "java/lang/constant/ConstantDesc"), (0, .class_ 4), (0, u "java/lang/Object")] 32

/-- java/lang/constant/ConstantDesc -/
def k6 : Class := { plain "java/lang/constant/ConstantDesc" (some 0) with
  accessFlags := 1537
  interfaces := #[]
  cf := some (fileOf pool6 1 #[] #[] 1537 3 #[] #[])
  fields := #[]
  methods := #[]
  instanceTypes := #[]
  staticTypes := #[]
  resolved := Array.replicate 37 none
  statics := none }

def pool7 : Array CpInfo := pool [(1, .methodref 2 3), (0, .class_ 4), (0, .nameAndType 5 6), (0, u "java/lang/Object"), (0, u "<init>"), (0, u "()V"), (0, .string 8), (0, u ""), (0, .fieldref 10 11), (0, .class_ 12), (0, .nameAndType 13 14), (0, u "java/lang/String"), (0, u "value"), (0, u "[B"), (0, .fieldref 10 16), (0, .nameAndType 17 18), (0, u "coder"), (0, u "B"), (2, u "hash"), (0, u "I"), (2, u "hashIsZero"), (0, u "Z"), (0, .methodref 10 28), (0, .nameAndType 5 29), (0, u "([CIILjava/lang/Void;)V"), (8, .fieldref 10 39), (0, .nameAndType 40 26), (0, u "COMPACT_STRINGS"), (1, .class_ 44), (1, u "java/lang/StringUTF16"), (0, u "compress"), (1, .methodref 42 48), (0, .nameAndType 49 50), (0, u "coderFromArrayLen"), (0, u "([BI)B"), (56, .class_ 109), (1, u "java/lang/StringLatin1"), (32, u "()Z"), (34, .methodref 42 178), (0, .nameAndType 45 179), (0, u "([CII)[B"), (154, u "()I"), (0, .methodref 10 336), (0, .nameAndType 17 337), (0, u "()B"), (25, u "([BI)C"), (27, u "(II)V"), (35, u "(I)C"), (64, .methodref 10 493), (0, .nameAndType 494 142), (0, u "isLatin1"), (0, .methodref 107 496), (0, .nameAndType 497 363), (0, u "charAt"), (0, .methodref 42 496), (2, u "checkIndex"), (5, u "length"), (67, .class_ 576), (0, u "java/lang/CharSequence"), (22, u "CASE_INSENSITIVE_ORDER"), (0, u "Ljava/util/Comparator;"), (409, u "([C)V"), (42, .fieldref 1054 1055), (0, .class_ 1056), (0, .nameAndType 1057 1058), (0, u "jdk/internal/util/Preconditions"), (0, u "SIOOBE_FORMATTER"), (0, u "Ljava/util/function/BiFunction;"), (0, .methodref 1054 1060), (0, .nameAndType 501 1061), (0, u "(IILjava/util/function/BiFunction;)I"), (39, u "serialPersistentFields"), (0, u "[Ljava/io/ObjectStreamField;"), (0, .class_ 1104), (0, u "java/lang/String$CaseInsensitiveComparator"), (1, .class_ 1107), (0, u "java/io/Serializable"), (0, .class_ 1109), (0, u "java/lang/Comparable"), (0, .class_ 1111), (0, u "java/lang/constant/Constable"), (0, .class_ 1113), (0, u "java/lang/constant/ConstantDesc"), (2, u "serialVersionUID"), (0, u "J"), (3, u "REPL"), (0, u "C"), (2, u "LATIN1"), (1, u "UTF16")] 323

def k7m0 : Method := { name := "<init>", desc := "()V", sig := { parameters := [], returnType := none }, accessFlags := 1, code := none }
def k7c1 : Code := { maxStack := 5, maxLocals := 2, code := jdk_42_method_3_code, exceptionTable := #[], attributes := #[] }
def k7m1 : Method := { name := "<init>", desc := "([C)V", sig := { parameters := [(.array .char)], returnType := none }, accessFlags := 1, code := some k7c1 }
def k7c2 : Code := { maxStack := 2, maxLocals := 1, code := jdk_42_method_54_code, exceptionTable := #[], attributes := #[] }
def k7m2 : Method := { name := "length", desc := "()I", sig := { parameters := [], returnType := some .int }, accessFlags := 1, code := some k7c2 }
def k7c3 : Code := { maxStack := 2, maxLocals := 2, code := jdk_42_method_56_code, exceptionTable := #[], attributes := #[] }
def k7m3 : Method := { name := "charAt", desc := "(I)C", sig := { parameters := [.int], returnType := some .char }, accessFlags := 1, code := some k7c3 }
def k7c4 : Code := { maxStack := 4, maxLocals := 6, code := jdk_42_method_149_code, exceptionTable := #[], attributes := #[] }
def k7m4 : Method := { name := "<init>", desc := "([CIILjava/lang/Void;)V", sig := { parameters := [(.array .char), .int, .int, (.object "java/lang/Void")], returnType := none }, accessFlags := 2, code := some k7c4 }
def k7c5 : Code := { maxStack := 1, maxLocals := 1, code := jdk_42_method_152_code, exceptionTable := #[], attributes := #[] }
def k7m5 : Method := { name := "coder", desc := "()B", sig := { parameters := [], returnType := some .byte }, accessFlags := 0, code := some k7c5 }
def k7c6 : Code := { maxStack := 1, maxLocals := 1, code := jdk_42_method_154_code, exceptionTable := #[], attributes := #[] }
def k7m6 : Method := { name := "isLatin1", desc := "()Z", sig := { parameters := [], returnType := some .boolean }, accessFlags := 0, code := some k7c6 }
def k7c7 : Code := { maxStack := 3, maxLocals := 2, code := jdk_42_method_155_code, exceptionTable := #[], attributes := #[] }
def k7m7 : Method := { name := "checkIndex", desc := "(II)V", sig := { parameters := [.int, .int], returnType := none }, accessFlags := 8, code := some k7c7 }
/-- java/lang/String -/
def k7 : Class := { plain "java/lang/String" (some 0) with
  accessFlags := 49
  interfaces := #[2, 3, 4, 5, 6]
  cf := some (fileOf pool7 10 #[.nestMembers #[1103]] #[{ accessFlags := 1, nameIndex := 5, descriptorIndex := 6, attributes := #[] }, { accessFlags := 1, nameIndex := 5, descriptorIndex := 1010, attributes := #[] }, { accessFlags := 1, nameIndex := 507, descriptorIndex := 334, attributes := #[] }, { accessFlags := 1, nameIndex := 497, descriptorIndex := 427, attributes := #[] }, { accessFlags := 2, nameIndex := 5, descriptorIndex := 29, attributes := #[] }, { accessFlags := 0, nameIndex := 17, descriptorIndex := 337, attributes := #[] }, { accessFlags := 0, nameIndex := 494, descriptorIndex := 142, attributes := #[] }, { accessFlags := 8, nameIndex := 501, descriptorIndex := 391, attributes := #[] }] 49 2 #[1106, 1108, 575, 1110, 1112] #[{ accessFlags := 18, nameIndex := 13, descriptorIndex := 14, attributes := #[] }, { accessFlags := 18, nameIndex := 17, descriptorIndex := 18, attributes := #[] }, { accessFlags := 2, nameIndex := 21, descriptorIndex := 22, attributes := #[] }, { accessFlags := 2, nameIndex := 25, descriptorIndex := 26, attributes := #[] }, { accessFlags := 26, nameIndex := 1116, descriptorIndex := 1117, attributes := #[] }, { accessFlags := 24, nameIndex := 40, descriptorIndex := 26, attributes := #[] }, { accessFlags := 26, nameIndex := 1101, descriptorIndex := 1102, attributes := #[] }, { accessFlags := 26, nameIndex := 1121, descriptorIndex := 1122, attributes := #[] }, { accessFlags := 25, nameIndex := 599, descriptorIndex := 600, attributes := #[] }, { accessFlags := 24, nameIndex := 1125, descriptorIndex := 18, attributes := #[] }, { accessFlags := 24, nameIndex := 1127, descriptorIndex := 18, attributes := #[] }])
  fields := #[{ name := "value", type := (.array .byte), accessFlags := 18, slot := 0, constantValue := 0 }, { name := "coder", type := .byte, accessFlags := 18, slot := 1, constantValue := 0 }, { name := "hash", type := .int, accessFlags := 2, slot := 2, constantValue := 0 }, { name := "hashIsZero", type := .boolean, accessFlags := 2, slot := 3, constantValue := 0 }, { name := "serialVersionUID", type := .long, accessFlags := 26, slot := 0, constantValue := 0 }, { name := "COMPACT_STRINGS", type := .boolean, accessFlags := 24, slot := 1, constantValue := 0 }, { name := "serialPersistentFields", type := (.array (.object "java/io/ObjectStreamField")), accessFlags := 26, slot := 2, constantValue := 0 }, { name := "REPL", type := .char, accessFlags := 26, slot := 3, constantValue := 0 }, { name := "CASE_INSENSITIVE_ORDER", type := (.object "java/util/Comparator"), accessFlags := 25, slot := 4, constantValue := 0 }, { name := "LATIN1", type := .byte, accessFlags := 24, slot := 5, constantValue := 0 }, { name := "UTF16", type := .byte, accessFlags := 24, slot := 6, constantValue := 0 }]
  methods := #[k7m0, k7m1, k7m2, k7m3, k7m4, k7m5, k7m6, k7m7]
  instanceTypes := #[(.array .byte), .byte, .int, .boolean]
  staticTypes := #[.long, .boolean, (.array (.object "java/io/ObjectStreamField")), .char, (.object "java/util/Comparator"), .byte, .byte]
  resolved := Array.replicate 1451 none
  statics := some 0 }

def pool8 : Array CpInfo := pool [(3, .class_ 4), (0, u "java/lang/String"), (1, .class_ 8), (1, u "java/lang/Object"), (0, u "<init>"), (0, u "()V"), (0, .methodref 12 13), (0, .class_ 14), (0, .nameAndType 15 16), (0, u "java/lang/StringUTF16"), (0, u "newBytesLength"), (0, u "(I)I"), (3, .integer 1073741823), (23, .fieldref 12 45), (0, .nameAndType 46 47), (0, u "$assertionsDisabled"), (0, u "Z"), (0, .methodref 12 49), (0, .nameAndType 50 51), (0, u "length"), (0, u "([B)I"), (7, .fieldref 12 60), (0, .nameAndType 61 62), (0, u "HI_BYTE_SHIFT"), (0, u "I"), (0, .fieldref 12 64), (0, .nameAndType 65 62), (0, u "LO_BYTE_SHIFT"), (1, .methodref 12 68), (0, .nameAndType 69 70), (0, u "checkIndex"), (0, u "(I[B)V"), (0, .methodref 12 72), (0, .nameAndType 73 74), (0, u "getChar"), (0, u "([BI)C"), (32, .methodref 12 108), (0, .nameAndType 109 110), (0, u "newBytesFor"), (0, u "(I)[B"), (0, .methodref 12 112), (0, .nameAndType 113 114), (0, u "putChar"), (0, u "([BII)V"), (0, .methodref 12 116), (0, .nameAndType 117 118), (0, u "compress"), (0, u "([CI[BII)I"), (0, .methodref 12 120), (0, .nameAndType 121 122), (0, u "toBytes"), (0, u "([CII)[B"), (138, u "coderFromArrayLen"), (0, u "([BI)B"), (106, .class_ 371), (1, u "java/lang/StringUTF16$LinesSpliterator"), (20, u "charAt"), (21, .methodref 3 415), (0, .nameAndType 69 416), (0, u "(II)V"), (13, u "MAX_LENGTH"), (196, .class_ 628), (0, u "java/lang/StringUTF16$CodePointsSpliterator"), (0, .class_ 630), (0, u "java/lang/StringUTF16$CharsSpliterator")] 4

def k8m0 : Method := { name := "<init>", desc := "()V", sig := { parameters := [], returnType := none }, accessFlags := 0, code := none }
def k8c1 : Code := { maxStack := 1, maxLocals := 1, code := jdk_52_method_2_code, exceptionTable := #[], attributes := #[] }
def k8m1 : Method := { name := "newBytesFor", desc := "(I)[B", sig := { parameters := [.int], returnType := some (.array .byte) }, accessFlags := 9, code := some k8c1 }
def k8c2 : Code := { maxStack := 4, maxLocals := 1, code := jdk_52_method_3_code, exceptionTable := #[], attributes := #[] }
def k8m2 : Method := { name := "newBytesLength", desc := "(I)I", sig := { parameters := [.int], returnType := some .int }, accessFlags := 9, code := some k8c2 }
def k8c3 : Code := { maxStack := 4, maxLocals := 3, code := jdk_52_method_4_code, exceptionTable := #[], attributes := #[] }
def k8m3 : Method := { name := "putChar", desc := "([BII)V", sig := { parameters := [(.array .byte), .int, .int], returnType := none }, accessFlags := 8, code := some k8c3 }
def k8c4 : Code := { maxStack := 3, maxLocals := 2, code := jdk_52_method_5_code, exceptionTable := #[], attributes := #[] }
def k8m4 : Method := { name := "getChar", desc := "([BI)C", sig := { parameters := [(.array .byte), .int], returnType := some .char }, accessFlags := 8, code := some k8c4 }
def k8c5 : Code := { maxStack := 2, maxLocals := 1, code := jdk_52_method_6_code, exceptionTable := #[], attributes := #[] }
def k8m5 : Method := { name := "length", desc := "([B)I", sig := { parameters := [(.array .byte)], returnType := some .int }, accessFlags := 9, code := some k8c5 }
def k8c6 : Code := { maxStack := 4, maxLocals := 5, code := jdk_52_method_14_code, exceptionTable := #[], attributes := #[] }
def k8m6 : Method := { name := "toBytes", desc := "([CII)[B", sig := { parameters := [(.array .char), .int, .int], returnType := some (.array .byte) }, accessFlags := 9, code := some k8c6 }
def k8c7 : Code := { maxStack := 2, maxLocals := 2, code := jdk_52_method_15_code, exceptionTable := #[], attributes := #[] }
def k8m7 : Method := { name := "coderFromArrayLen", desc := "([BI)B", sig := { parameters := [(.array .byte), .int], returnType := some .byte }, accessFlags := 8, code := some k8c7 }
def k8c8 : Code := { maxStack := 5, maxLocals := 6, code := jdk_52_method_16_code, exceptionTable := #[], attributes := #[] }
def k8m8 : Method := { name := "compress", desc := "([CII)[B", sig := { parameters := [(.array .char), .int, .int], returnType := some (.array .byte) }, accessFlags := 9, code := some k8c8 }
def k8c9 : Code := { maxStack := 3, maxLocals := 7, code := jdk_52_method_21_code, exceptionTable := #[], attributes := #[] }
def k8m9 : Method := { name := "compress", desc := "([CI[BII)I", sig := { parameters := [(.array .char), .int, (.array .byte), .int, .int], returnType := some .int }, accessFlags := 9, code := some k8c9 }
def k8c10 : Code := { maxStack := 2, maxLocals := 2, code := jdk_52_method_83_code, exceptionTable := #[], attributes := #[] }
def k8m10 : Method := { name := "charAt", desc := "([BI)C", sig := { parameters := [(.array .byte), .int], returnType := some .char }, accessFlags := 9, code := some k8c10 }
def k8c11 : Code := { maxStack := 2, maxLocals := 2, code := jdk_52_method_91_code, exceptionTable := #[], attributes := #[] }
def k8m11 : Method := { name := "checkIndex", desc := "(I[B)V", sig := { parameters := [.int, (.array .byte)], returnType := none }, accessFlags := 9, code := some k8c11 }
/-- java/lang/StringUTF16 -/
def k8 : Class := { plain "java/lang/StringUTF16" (some 0) with
  accessFlags := 48
  interfaces := #[]
  cf := some (fileOf pool8 12 #[.nestMembers #[627, 629, 369]] #[{ accessFlags := 0, nameIndex := 9, descriptorIndex := 10, attributes := #[] }, { accessFlags := 9, nameIndex := 109, descriptorIndex := 110, attributes := #[] }, { accessFlags := 9, nameIndex := 15, descriptorIndex := 16, attributes := #[] }, { accessFlags := 8, nameIndex := 113, descriptorIndex := 114, attributes := #[] }, { accessFlags := 8, nameIndex := 73, descriptorIndex := 74, attributes := #[] }, { accessFlags := 9, nameIndex := 50, descriptorIndex := 51, attributes := #[] }, { accessFlags := 9, nameIndex := 121, descriptorIndex := 122, attributes := #[] }, { accessFlags := 8, nameIndex := 261, descriptorIndex := 262, attributes := #[] }, { accessFlags := 9, nameIndex := 117, descriptorIndex := 122, attributes := #[] }, { accessFlags := 9, nameIndex := 117, descriptorIndex := 118, attributes := #[] }, { accessFlags := 9, nameIndex := 392, descriptorIndex := 74, attributes := #[] }, { accessFlags := 9, nameIndex := 69, descriptorIndex := 70, attributes := #[] }] 48 6 #[] #[{ accessFlags := 26, nameIndex := 61, descriptorIndex := 62, attributes := #[] }, { accessFlags := 26, nameIndex := 65, descriptorIndex := 62, attributes := #[] }, { accessFlags := 24, nameIndex := 430, descriptorIndex := 62, attributes := #[] }, { accessFlags := 4120, nameIndex := 46, descriptorIndex := 47, attributes := #[] }])
  fields := #[{ name := "HI_BYTE_SHIFT", type := .int, accessFlags := 26, slot := 0, constantValue := 0 }, { name := "LO_BYTE_SHIFT", type := .int, accessFlags := 26, slot := 1, constantValue := 0 }, { name := "MAX_LENGTH", type := .int, accessFlags := 24, slot := 2, constantValue := 0 }, { name := "$assertionsDisabled", type := .boolean, accessFlags := 4120, slot := 3, constantValue := 0 }]
  methods := #[k8m0, k8m1, k8m2, k8m3, k8m4, k8m5, k8m6, k8m7, k8m8, k8m9, k8m10, k8m11]
  instanceTypes := #[]
  staticTypes := #[.int, .int, .int, .boolean]
  resolved := Array.replicate 635 none
  statics := some 1 }

def pool9 : Array CpInfo := pool [(2, .class_ 4), (1, u "java/lang/Object"), (3, .class_ 10), (1, u "com/example/whole_session/wholesession/Run"), (0, u "file"), (0, u "Ljava/nio/file/Path;"), (2, u "tag"), (0, u "Ljava/lang/String;"), (2, u "bySession"), (0, u "Ljava/util/SortedMap;"), (2, u "firstLines"), (0, u "Ljava/util/Map;"), (0, .class_ 26), (0, u "com/example/whole_session/wholesession/Run$Lines"), (38, .class_ 66), (0, u "com/example/whole_session/wholesession/Run$SessionLines"), (40, u "CONDITION"), (0, u "Ljava/util/regex/Pattern;"), (11, .class_ 121), (0, u "com/example/whole_session/wholesession/Run$FileName"), (3, u "()I"), (1, .class_ 129), (1, u "java/lang/String"), (27, .methodref 127 158), (0, .nameAndType 159 125), (0, u "length"), (2, .class_ 163), (0, u "java/lang/Integer"), (55, .methodref 220 221), (0, .class_ 222), (0, .nameAndType 223 224), (0, u "java/lang/Math"), (0, u "min"), (0, u "(II)I"), (0, .methodref 127 226), (0, .nameAndType 227 228), (0, u "charAt"), (0, u "(I)C"), (0, .methodref 8 230), (0, .nameAndType 231 232), (0, u "codePointOrder"), (0, u "(C)I"), (0, .methodref 162 234), (0, .nameAndType 235 224), (0, u "compare"), (0, .methodref 237 238), (0, .class_ 239), (0, .nameAndType 240 241), (0, u "java/lang/Character"), (0, u "isSurrogate"), (0, u "(C)Z"), (0, .integer 65536), (6, u "CONDITION_PREFIX"), (22, u "compareUtf8"), (0, u "(Ljava/lang/String;Ljava/lang/String;)I")] 38

def k9c0 : Code := { maxStack := 2, maxLocals := 6, code := prog_41_method_13_code, exceptionTable := #[], attributes := #[] }
def k9m0 : Method := { name := "compareUtf8", desc := "(Ljava/lang/String;Ljava/lang/String;)I", sig := { parameters := [(.object "java/lang/String"), (.object "java/lang/String")], returnType := some .int }, accessFlags := 8, code := some k9c0 }
def k9c1 : Code := { maxStack := 2, maxLocals := 1, code := prog_41_method_14_code, exceptionTable := #[], attributes := #[] }
def k9m1 : Method := { name := "codePointOrder", desc := "(C)I", sig := { parameters := [.char], returnType := some .int }, accessFlags := 10, code := some k9c1 }
/-- com/example/whole_session/wholesession/Run -/
def k9 : Class := { plain "com/example/whole_session/wholesession/Run" (some 0) with
  accessFlags := 49
  interfaces := #[]
  cf := some (fileOf pool9 8 #[.nestMembers #[65, 25, 120]] #[{ accessFlags := 8, nameIndex := 272, descriptorIndex := 273, attributes := #[] }, { accessFlags := 10, nameIndex := 231, descriptorIndex := 232, attributes := #[] }] 49 2 #[] #[{ accessFlags := 26, nameIndex := 249, descriptorIndex := 16, attributes := #[] }, { accessFlags := 26, nameIndex := 107, descriptorIndex := 108, attributes := #[] }, { accessFlags := 18, nameIndex := 11, descriptorIndex := 12, attributes := #[] }, { accessFlags := 18, nameIndex := 15, descriptorIndex := 16, attributes := #[] }, { accessFlags := 18, nameIndex := 19, descriptorIndex := 20, attributes := #[] }, { accessFlags := 18, nameIndex := 23, descriptorIndex := 24, attributes := #[] }])
  fields := #[{ name := "CONDITION_PREFIX", type := (.object "java/lang/String"), accessFlags := 26, slot := 0, constantValue := 0 }, { name := "CONDITION", type := (.object "java/util/regex/Pattern"), accessFlags := 26, slot := 1, constantValue := 0 }, { name := "file", type := (.object "java/nio/file/Path"), accessFlags := 18, slot := 0, constantValue := 0 }, { name := "tag", type := (.object "java/lang/String"), accessFlags := 18, slot := 1, constantValue := 0 }, { name := "bySession", type := (.object "java/util/SortedMap"), accessFlags := 18, slot := 2, constantValue := 0 }, { name := "firstLines", type := (.object "java/util/Map"), accessFlags := 18, slot := 3, constantValue := 0 }]
  methods := #[k9m0, k9m1]
  instanceTypes := #[(.object "java/nio/file/Path"), (.object "java/lang/String"), (.object "java/util/SortedMap"), (.object "java/util/Map")]
  staticTypes := #[(.object "java/lang/String"), (.object "java/util/regex/Pattern")]
  resolved := Array.replicate 312 none
  statics := none }

def pool10 : Array CpInfo := pool [(1, .class_ 2), (0, u "java/lang/Math"), (1, .class_ 6), (1, u "java/lang/Object"), (0, u "<init>"), (0, u "()V"), (89, .class_ 100), (1, u "java/lang/Math$RandomNumberGeneratorHolder"), (71, u "negativeZeroFloatBits"), (0, u "J"), (2, u "negativeZeroDoubleBits"), (24, u "min"), (43, u "$assertionsDisabled"), (0, u "Z"), (88, u "(II)I"), (2, u "twoToTheDoubleScaleDown"), (0, u "D"), (4, u "twoToTheDoubleScaleUp"), (9, u "E"), (3, u "PI"), (2, u "TAU"), (2, u "DEGREES_TO_RADIANS"), (0, u "RADIANS_TO_DEGREES")] 94

def k10m0 : Method := { name := "<init>", desc := "()V", sig := { parameters := [], returnType := none }, accessFlags := 2, code := none }
def k10c1 : Code := { maxStack := 2, maxLocals := 2, code := jdk_29_method_69_code, exceptionTable := #[], attributes := #[] }
def k10m1 : Method := { name := "min", desc := "(II)I", sig := { parameters := [.int, .int], returnType := some .int }, accessFlags := 9, code := some k10c1 }
/-- java/lang/Math -/
def k10 : Class := { plain "java/lang/Math" (some 0) with
  accessFlags := 49
  interfaces := #[]
  cf := some (fileOf pool10 1 #[.nestMembers #[98]] #[{ accessFlags := 2, nameIndex := 7, descriptorIndex := 8, attributes := #[] }, { accessFlags := 9, nameIndex := 201, descriptorIndex := 335, attributes := #[] }] 49 4 #[] #[{ accessFlags := 25, nameIndex := 354, descriptorIndex := 339, attributes := #[] }, { accessFlags := 25, nameIndex := 358, descriptorIndex := 339, attributes := #[] }, { accessFlags := 25, nameIndex := 361, descriptorIndex := 339, attributes := #[] }, { accessFlags := 26, nameIndex := 364, descriptorIndex := 339, attributes := #[] }, { accessFlags := 26, nameIndex := 365, descriptorIndex := 339, attributes := #[] }, { accessFlags := 26, nameIndex := 172, descriptorIndex := 173, attributes := #[] }, { accessFlags := 26, nameIndex := 176, descriptorIndex := 173, attributes := #[] }, { accessFlags := 8, nameIndex := 344, descriptorIndex := 339, attributes := #[] }, { accessFlags := 8, nameIndex := 338, descriptorIndex := 339, attributes := #[] }, { accessFlags := 4120, nameIndex := 245, descriptorIndex := 246, attributes := #[] }])
  fields := #[{ name := "E", type := .double, accessFlags := 25, slot := 0, constantValue := 0 }, { name := "PI", type := .double, accessFlags := 25, slot := 1, constantValue := 0 }, { name := "TAU", type := .double, accessFlags := 25, slot := 2, constantValue := 0 }, { name := "DEGREES_TO_RADIANS", type := .double, accessFlags := 26, slot := 3, constantValue := 0 }, { name := "RADIANS_TO_DEGREES", type := .double, accessFlags := 26, slot := 4, constantValue := 0 }, { name := "negativeZeroFloatBits", type := .long, accessFlags := 26, slot := 5, constantValue := 0 }, { name := "negativeZeroDoubleBits", type := .long, accessFlags := 26, slot := 6, constantValue := 0 }, { name := "twoToTheDoubleScaleUp", type := .double, accessFlags := 8, slot := 7, constantValue := 0 }, { name := "twoToTheDoubleScaleDown", type := .double, accessFlags := 8, slot := 8, constantValue := 0 }, { name := "$assertionsDisabled", type := .boolean, accessFlags := 4120, slot := 9, constantValue := 0 }]
  methods := #[k10m0, k10m1]
  instanceTypes := #[]
  staticTypes := #[.double, .double, .double, .double, .double, .long, .long, .double, .double, .boolean]
  resolved := Array.replicate 460 none
  statics := none }

def pool11 : Array CpInfo := pool [(2, .class_ 4), (1, u "java/lang/Object"), (0, u "<init>"), (0, u "()V"), (1, .class_ 10), (1, u "java/lang/Number"), (2, .class_ 14), (0, u "java/io/Serializable"), (0, u "serialVersionUID"), (0, u "J")] 20

def k11m0 : Method := { name := "<init>", desc := "()V", sig := { parameters := [], returnType := none }, accessFlags := 1, code := none }
/-- java/lang/Number -/
def k11 : Class := { plain "java/lang/Number" (some 0) with
  accessFlags := 1057
  interfaces := #[2]
  cf := some (fileOf pool11 8 #[] #[{ accessFlags := 1, nameIndex := 5, descriptorIndex := 6, attributes := #[] }] 1057 2 #[13] #[{ accessFlags := 26, nameIndex := 15, descriptorIndex := 16, attributes := #[] }])
  fields := #[{ name := "serialVersionUID", type := .long, accessFlags := 26, slot := 0, constantValue := 0 }]
  methods := #[k11m0]
  instanceTypes := #[]
  staticTypes := #[.long]
  resolved := Array.replicate 37 none
  statics := none }

def pool12 : Array CpInfo := pool [(1, .class_ 2), (0, u "java/lang/Integer"), (16, u "digits"), (0, u "[C"), (39, u "(II)I"), (24, u "DigitOnes"), (0, u "[B"), (2, u "DigitTens"), (99, .class_ 190), (0, u "java/lang/Integer$IntegerCache"), (3, u "I"), (8, .class_ 204), (0, u "java/lang/Number"), (2, u "value"), (53, u "compare"), (40, u "TYPE"), (0, u "Ljava/lang/Class;"), (0, .class_ 305), (0, u "java/lang/Comparable"), (0, .class_ 307), (0, u "java/lang/constant/Constable"), (0, .class_ 309), (0, u "java/lang/constant/ConstantDesc"), (0, u "MIN_VALUE"), (1, u "MAX_VALUE"), (3, u "SIZE"), (1, u "BYTES"), (1, u "serialVersionUID"), (0, u "J")] 131

def k12c0 : Code := { maxStack := 2, maxLocals := 2, code := jdk_33_method_40_code, exceptionTable := #[], attributes := #[] }
def k12m0 : Method := { name := "compare", desc := "(II)I", sig := { parameters := [.int, .int], returnType := some .int }, accessFlags := 9, code := some k12c0 }
/-- java/lang/Integer -/
def k12 : Class := { plain "java/lang/Integer" (some 11) with
  accessFlags := 49
  interfaces := #[3, 5, 6]
  cf := some (fileOf pool12 1 #[.nestMembers #[189]] #[{ accessFlags := 9, nameIndex := 261, descriptorIndex := 60, attributes := #[] }] 49 203 #[304, 306, 308] #[{ accessFlags := 25, nameIndex := 310, descriptorIndex := 194, attributes := #[] }, { accessFlags := 25, nameIndex := 312, descriptorIndex := 194, attributes := #[] }, { accessFlags := 25, nameIndex := 302, descriptorIndex := 303, attributes := #[] }, { accessFlags := 24, nameIndex := 19, descriptorIndex := 20, attributes := #[] }, { accessFlags := 24, nameIndex := 89, descriptorIndex := 86, attributes := #[] }, { accessFlags := 24, nameIndex := 85, descriptorIndex := 86, attributes := #[] }, { accessFlags := 18, nameIndex := 207, descriptorIndex := 194, attributes := #[] }, { accessFlags := 25, nameIndex := 316, descriptorIndex := 194, attributes := #[] }, { accessFlags := 25, nameIndex := 318, descriptorIndex := 194, attributes := #[] }, { accessFlags := 26, nameIndex := 320, descriptorIndex := 321, attributes := #[] }])
  fields := #[{ name := "MIN_VALUE", type := .int, accessFlags := 25, slot := 0, constantValue := 0 }, { name := "MAX_VALUE", type := .int, accessFlags := 25, slot := 1, constantValue := 0 }, { name := "TYPE", type := (.object "java/lang/Class"), accessFlags := 25, slot := 2, constantValue := 0 }, { name := "digits", type := (.array .char), accessFlags := 24, slot := 3, constantValue := 0 }, { name := "DigitTens", type := (.array .byte), accessFlags := 24, slot := 4, constantValue := 0 }, { name := "DigitOnes", type := (.array .byte), accessFlags := 24, slot := 5, constantValue := 0 }, { name := "value", type := .int, accessFlags := 18, slot := 0, constantValue := 0 }, { name := "SIZE", type := .int, accessFlags := 25, slot := 6, constantValue := 0 }, { name := "BYTES", type := .int, accessFlags := 25, slot := 7, constantValue := 0 }, { name := "serialVersionUID", type := .long, accessFlags := 26, slot := 8, constantValue := 0 }]
  methods := #[k12m0]
  instanceTypes := #[.int]
  staticTypes := #[.int, .int, (.object "java/lang/Class"), (.array .char), (.array .byte), (.array .byte), .int, .int, .long]
  resolved := Array.replicate 453 none
  statics := none }

def pool13 : Array CpInfo := pool [(1, .class_ 2), (0, u "java/lang/String"), (1, .class_ 6), (1, u "java/lang/Object"), (0, u "<init>"), (0, u "()V"), (0, .methodref 1 10), (0, .nameAndType 11 12), (0, u "checkIndex"), (0, u "(II)V"), (1, .class_ 16), (1, u "java/lang/StringLatin1"), (36, u "([BI)C"), (67, u "$assertionsDisabled"), (0, u "Z"), (98, .class_ 223), (1, u "java/lang/StringLatin1$LinesSpliterator"), (28, u "charAt"), (137, .class_ 391), (0, u "java/lang/StringLatin1$CharsSpliterator")] 3

def k13m0 : Method := { name := "<init>", desc := "()V", sig := { parameters := [], returnType := none }, accessFlags := 0, code := none }
def k13c1 : Code := { maxStack := 2, maxLocals := 2, code := jdk_43_method_2_code, exceptionTable := #[], attributes := #[] }
def k13m1 : Method := { name := "charAt", desc := "([BI)C", sig := { parameters := [(.array .byte), .int], returnType := some .char }, accessFlags := 9, code := some k13c1 }
/-- java/lang/StringLatin1 -/
def k13 : Class := { plain "java/lang/StringLatin1" (some 0) with
  accessFlags := 48
  interfaces := #[]
  cf := some (fileOf pool13 14 #[.nestMembers #[390, 221]] #[{ accessFlags := 0, nameIndex := 7, descriptorIndex := 8, attributes := #[] }, { accessFlags := 9, nameIndex := 252, descriptorIndex := 53, attributes := #[] }] 48 4 #[] #[{ accessFlags := 4120, nameIndex := 121, descriptorIndex := 122, attributes := #[] }])
  fields := #[{ name := "$assertionsDisabled", type := .boolean, accessFlags := 4120, slot := 0, constantValue := 0 }]
  methods := #[k13m0, k13m1]
  instanceTypes := #[]
  staticTypes := #[.boolean]
  resolved := Array.replicate 395 none
  statics := none }

def pool14 : Array CpInfo := pool [(2, .class_ 4), (1, u "java/lang/Object"), (0, u "<init>"), (0, u "()V"), (17, .class_ 26), (1, u "jdk/internal/util/Preconditions"), (6, u "checkIndex"), (21, .class_ 56), (0, u "jdk/internal/util/Preconditions$4"), (57, .class_ 115), (0, u "jdk/internal/util/Preconditions$1"), (7, u "SIOOBE_FORMATTER"), (0, u "Ljava/util/function/BiFunction;"), (0, .class_ 126), (0, u "jdk/internal/util/Preconditions$2"), (3, u "AIOOBE_FORMATTER"), (0, .class_ 132), (0, u "jdk/internal/util/Preconditions$3"), (3, u "IOOBE_FORMATTER"), (41, u "(IILjava/util/function/BiFunction;)I")] 15

def k14m0 : Method := { name := "<init>", desc := "()V", sig := { parameters := [], returnType := none }, accessFlags := 1, code := none }
def k14c1 : Code := { maxStack := 3, maxLocals := 3, code := jdk_41_method_11_code, exceptionTable := #[], attributes := #[] }
def k14m1 : Method := { name := "checkIndex", desc := "(IILjava/util/function/BiFunction;)I", sig := { parameters := [.int, .int, (.object "java/util/function/BiFunction")], returnType := some .int }, accessFlags := 9, code := some k14c1 }
/-- jdk/internal/util/Preconditions -/
def k14 : Class := { plain "jdk/internal/util/Preconditions" (some 0) with
  accessFlags := 33
  interfaces := #[]
  cf := some (fileOf pool14 24 #[.nestMembers #[55, 131, 125, 114]] #[{ accessFlags := 1, nameIndex := 5, descriptorIndex := 6, attributes := #[] }, { accessFlags := 9, nameIndex := 33, descriptorIndex := 178, attributes := #[] }] 33 2 #[] #[{ accessFlags := 25, nameIndex := 123, descriptorIndex := 124, attributes := #[] }, { accessFlags := 25, nameIndex := 130, descriptorIndex := 124, attributes := #[] }, { accessFlags := 25, nameIndex := 136, descriptorIndex := 124, attributes := #[] }])
  fields := #[{ name := "SIOOBE_FORMATTER", type := (.object "java/util/function/BiFunction"), accessFlags := 25, slot := 0, constantValue := 0 }, { name := "AIOOBE_FORMATTER", type := (.object "java/util/function/BiFunction"), accessFlags := 25, slot := 1, constantValue := 0 }, { name := "IOOBE_FORMATTER", type := (.object "java/util/function/BiFunction"), accessFlags := 25, slot := 2, constantValue := 0 }]
  methods := #[k14m0, k14m1]
  instanceTypes := #[]
  staticTypes := #[(.object "java/util/function/BiFunction"), (.object "java/util/function/BiFunction"), (.object "java/util/function/BiFunction")]
  resolved := Array.replicate 194 none
  statics := some 2 }

def pool15 : Array CpInfo := pool [(1, .class_ 2), (0, u "java/lang/Character"), (18, u "value"), (0, u "C"), (19, .class_ 44), (1, u "java/lang/Object"), (3, .class_ 50), (1, u "java/lang/Character$CharacterCache"), (24, .integer 55296), (1, .integer 57344), (3, u "(C)Z"), (202, u "$assertionsDisabled"), (0, u "Z"), (21, .class_ 309), (1, u "java/lang/Character$UnicodeBlock"), (73, u "TYPE"), (0, u "Ljava/lang/Class;"), (0, .class_ 386), (0, u "java/io/Serializable"), (0, .class_ 388), (0, u "java/lang/Comparable"), (0, .class_ 390), (0, u "java/lang/constant/Constable"), (0, u "MIN_RADIX"), (0, u "I"), (2, u "MAX_RADIX"), (1, u "MIN_VALUE"), (1, u "MAX_VALUE"), (3, u "UNASSIGNED"), (0, u "B"), (0, u "UPPERCASE_LETTER"), (1, u "LOWERCASE_LETTER"), (0, u "TITLECASE_LETTER"), (1, u "MODIFIER_LETTER"), (1, u "OTHER_LETTER"), (1, u "NON_SPACING_MARK"), (1, u "ENCLOSING_MARK"), (1, u "COMBINING_SPACING_MARK"), (1, u "DECIMAL_DIGIT_NUMBER"), (1, u "LETTER_NUMBER"), (1, u "OTHER_NUMBER"), (1, u "SPACE_SEPARATOR"), (1, u "LINE_SEPARATOR"), (1, u "PARAGRAPH_SEPARATOR"), (1, u "CONTROL"), (1, u "FORMAT"), (1, u "PRIVATE_USE"), (1, u "SURROGATE"), (1, u "DASH_PUNCTUATION"), (1, u "START_PUNCTUATION"), (1, u "END_PUNCTUATION"), (1, u "CONNECTOR_PUNCTUATION"), (1, u "OTHER_PUNCTUATION"), (1, u "MATH_SYMBOL"), (1, u "CURRENCY_SYMBOL"), (1, u "MODIFIER_SYMBOL"), (1, u "OTHER_SYMBOL"), (1, u "INITIAL_QUOTE_PUNCTUATION"), (1, u "FINAL_QUOTE_PUNCTUATION"), (1, u "ERROR"), (1, u "DIRECTIONALITY_UNDEFINED"), (0, u "DIRECTIONALITY_LEFT_TO_RIGHT"), (0, u "DIRECTIONALITY_RIGHT_TO_LEFT"), (0, u "DIRECTIONALITY_RIGHT_TO_LEFT_ARABIC"), (0, u "DIRECTIONALITY_EUROPEAN_NUMBER"), (0, u "DIRECTIONALITY_EUROPEAN_NUMBER_SEPARATOR"), (0, u "DIRECTIONALITY_EUROPEAN_NUMBER_TERMINATOR"), (0, u "DIRECTIONALITY_ARABIC_NUMBER"), (0, u "DIRECTIONALITY_COMMON_NUMBER_SEPARATOR"), (0, u "DIRECTIONALITY_NONSPACING_MARK"), (0, u "DIRECTIONALITY_BOUNDARY_NEUTRAL"), (0, u "DIRECTIONALITY_PARAGRAPH_SEPARATOR"), (0, u "DIRECTIONALITY_SEGMENT_SEPARATOR"), (0, u "DIRECTIONALITY_WHITESPACE"), (0, u "DIRECTIONALITY_OTHER_NEUTRALS"), (0, u "DIRECTIONALITY_LEFT_TO_RIGHT_EMBEDDING"), (0, u "DIRECTIONALITY_LEFT_TO_RIGHT_OVERRIDE"), (0, u "DIRECTIONALITY_RIGHT_TO_LEFT_EMBEDDING"), (0, u "DIRECTIONALITY_RIGHT_TO_LEFT_OVERRIDE"), (1, u "DIRECTIONALITY_POP_DIRECTIONAL_FORMAT"), (0, u "DIRECTIONALITY_LEFT_TO_RIGHT_ISOLATE"), (0, u "DIRECTIONALITY_RIGHT_TO_LEFT_ISOLATE"), (0, u "DIRECTIONALITY_FIRST_STRONG_ISOLATE"), (0, u "DIRECTIONALITY_POP_DIRECTIONAL_ISOLATE"), (0, u "MIN_HIGH_SURROGATE"), (0, u "MAX_HIGH_SURROGATE"), (1, u "MIN_LOW_SURROGATE"), (0, u "MAX_LOW_SURROGATE"), (1, u "MIN_SURROGATE"), (0, u "MAX_SURROGATE"), (0, u "MIN_SUPPLEMENTARY_CODE_POINT"), (0, u "MIN_CODE_POINT"), (0, u "MAX_CODE_POINT"), (1, u "serialVersionUID"), (0, u "J"), (2, u "SIZE"), (0, u "BYTES"), (24, u "isSurrogate"), (63, .class_ 596), (0, u "java/lang/Character$UnicodeScript"), (0, .class_ 598), (0, u "java/lang/Character$Subset")] 5

def k15c0 : Code := { maxStack := 2, maxLocals := 1, code := jdk_89_method_16_code, exceptionTable := #[], attributes := #[] }
def k15m0 : Method := { name := "isSurrogate", desc := "(C)Z", sig := { parameters := [.char], returnType := some .boolean }, accessFlags := 9, code := some k15c0 }
/-- java/lang/Character -/
def k15 : Class := { plain "java/lang/Character" (some 0) with
  accessFlags := 49
  interfaces := #[2, 3, 5]
  cf := some (fileOf pool15 1 #[.nestMembers #[48, 595, 307, 597]] #[{ accessFlags := 9, nameIndex := 531, descriptorIndex := 81, attributes := #[] }] 49 42 #[385, 387, 389] #[{ accessFlags := 25, nameIndex := 391, descriptorIndex := 392, attributes := #[] }, { accessFlags := 25, nameIndex := 395, descriptorIndex := 392, attributes := #[] }, { accessFlags := 25, nameIndex := 397, descriptorIndex := 22, attributes := #[] }, { accessFlags := 25, nameIndex := 399, descriptorIndex := 22, attributes := #[] }, { accessFlags := 25, nameIndex := 383, descriptorIndex := 384, attributes := #[] }, { accessFlags := 25, nameIndex := 403, descriptorIndex := 404, attributes := #[] }, { accessFlags := 25, nameIndex := 405, descriptorIndex := 404, attributes := #[] }, { accessFlags := 25, nameIndex := 407, descriptorIndex := 404, attributes := #[] }, { accessFlags := 25, nameIndex := 408, descriptorIndex := 404, attributes := #[] }, { accessFlags := 25, nameIndex := 410, descriptorIndex := 404, attributes := #[] }, { accessFlags := 25, nameIndex := 412, descriptorIndex := 404, attributes := #[] }, { accessFlags := 25, nameIndex := 414, descriptorIndex := 404, attributes := #[] }, { accessFlags := 25, nameIndex := 416, descriptorIndex := 404, attributes := #[] }, { accessFlags := 25, nameIndex := 418, descriptorIndex := 404, attributes := #[] }, { accessFlags := 25, nameIndex := 420, descriptorIndex := 404, attributes := #[] }, { accessFlags := 25, nameIndex := 422, descriptorIndex := 404, attributes := #[] }, { accessFlags := 25, nameIndex := 424, descriptorIndex := 404, attributes := #[] }, { accessFlags := 25, nameIndex := 426, descriptorIndex := 404, attributes := #[] }, { accessFlags := 25, nameIndex := 428, descriptorIndex := 404, attributes := #[] }, { accessFlags := 25, nameIndex := 430, descriptorIndex := 404, attributes := #[] }, { accessFlags := 25, nameIndex := 432, descriptorIndex := 404, attributes := #[] }, { accessFlags := 25, nameIndex := 434, descriptorIndex := 404, attributes := #[] }, { accessFlags := 25, nameIndex := 436, descriptorIndex := 404, attributes := #[] }, { accessFlags := 25, nameIndex := 438, descriptorIndex := 404, attributes := #[] }, { accessFlags := 25, nameIndex := 440, descriptorIndex := 404, attributes := #[] }, { accessFlags := 25, nameIndex := 442, descriptorIndex := 404, attributes := #[] }, { accessFlags := 25, nameIndex := 444, descriptorIndex := 404, attributes := #[] }, { accessFlags := 25, nameIndex := 446, descriptorIndex := 404, attributes := #[] }, { accessFlags := 25, nameIndex := 448, descriptorIndex := 404, attributes := #[] }, { accessFlags := 25, nameIndex := 450, descriptorIndex := 404, attributes := #[] }, { accessFlags := 25, nameIndex := 452, descriptorIndex := 404, attributes := #[] }, { accessFlags := 25, nameIndex := 454, descriptorIndex := 404, attributes := #[] }, { accessFlags := 25, nameIndex := 456, descriptorIndex := 404, attributes := #[] }, { accessFlags := 25, nameIndex := 458, descriptorIndex := 404, attributes := #[] }, { accessFlags := 25, nameIndex := 460, descriptorIndex := 404, attributes := #[] }, { accessFlags := 24, nameIndex := 462, descriptorIndex := 392, attributes := #[] }, { accessFlags := 25, nameIndex := 464, descriptorIndex := 404, attributes := #[] }, { accessFlags := 25, nameIndex := 465, descriptorIndex := 404, attributes := #[] }, { accessFlags := 25, nameIndex := 466, descriptorIndex := 404, attributes := #[] }, { accessFlags := 25, nameIndex := 467, descriptorIndex := 404, attributes := #[] }, { accessFlags := 25, nameIndex := 468, descriptorIndex := 404, attributes := #[] }, { accessFlags := 25, nameIndex := 469, descriptorIndex := 404, attributes := #[] }, { accessFlags := 25, nameIndex := 470, descriptorIndex := 404, attributes := #[] }, { accessFlags := 25, nameIndex := 471, descriptorIndex := 404, attributes := #[] }, { accessFlags := 25, nameIndex := 472, descriptorIndex := 404, attributes := #[] }, { accessFlags := 25, nameIndex := 473, descriptorIndex := 404, attributes := #[] }, { accessFlags := 25, nameIndex := 474, descriptorIndex := 404, attributes := #[] }, { accessFlags := 25, nameIndex := 475, descriptorIndex := 404, attributes := #[] }, { accessFlags := 25, nameIndex := 476, descriptorIndex := 404, attributes := #[] }, { accessFlags := 25, nameIndex := 477, descriptorIndex := 404, attributes := #[] }, { accessFlags := 25, nameIndex := 478, descriptorIndex := 404, attributes := #[] }, { accessFlags := 25, nameIndex := 479, descriptorIndex := 404, attributes := #[] }, { accessFlags := 25, nameIndex := 480, descriptorIndex := 404, attributes := #[] }, { accessFlags := 25, nameIndex := 481, descriptorIndex := 404, attributes := #[] }, { accessFlags := 25, nameIndex := 482, descriptorIndex := 404, attributes := #[] }, { accessFlags := 25, nameIndex := 484, descriptorIndex := 404, attributes := #[] }, { accessFlags := 25, nameIndex := 485, descriptorIndex := 404, attributes := #[] }, { accessFlags := 25, nameIndex := 486, descriptorIndex := 404, attributes := #[] }, { accessFlags := 25, nameIndex := 487, descriptorIndex := 404, attributes := #[] }, { accessFlags := 25, nameIndex := 488, descriptorIndex := 404, attributes := #[] }, { accessFlags := 25, nameIndex := 489, descriptorIndex := 22, attributes := #[] }, { accessFlags := 25, nameIndex := 490, descriptorIndex := 22, attributes := #[] }, { accessFlags := 25, nameIndex := 492, descriptorIndex := 22, attributes := #[] }, { accessFlags := 25, nameIndex := 493, descriptorIndex := 22, attributes := #[] }, { accessFlags := 25, nameIndex := 495, descriptorIndex := 22, attributes := #[] }, { accessFlags := 25, nameIndex := 496, descriptorIndex := 22, attributes := #[] }, { accessFlags := 25, nameIndex := 497, descriptorIndex := 392, attributes := #[] }, { accessFlags := 25, nameIndex := 498, descriptorIndex := 392, attributes := #[] }, { accessFlags := 25, nameIndex := 499, descriptorIndex := 392, attributes := #[] }, { accessFlags := 18, nameIndex := 21, descriptorIndex := 22, attributes := #[] }, { accessFlags := 26, nameIndex := 501, descriptorIndex := 502, attributes := #[] }, { accessFlags := 25, nameIndex := 505, descriptorIndex := 392, attributes := #[] }, { accessFlags := 25, nameIndex := 506, descriptorIndex := 392, attributes := #[] }, { accessFlags := 4120, nameIndex := 284, descriptorIndex := 285, attributes := #[] }])
  fields := #[{ name := "MIN_RADIX", type := .int, accessFlags := 25, slot := 0, constantValue := 0 }, { name := "MAX_RADIX", type := .int, accessFlags := 25, slot := 1, constantValue := 0 }, { name := "MIN_VALUE", type := .char, accessFlags := 25, slot := 2, constantValue := 0 }, { name := "MAX_VALUE", type := .char, accessFlags := 25, slot := 3, constantValue := 0 }, { name := "TYPE", type := (.object "java/lang/Class"), accessFlags := 25, slot := 4, constantValue := 0 }, { name := "UNASSIGNED", type := .byte, accessFlags := 25, slot := 5, constantValue := 0 }, { name := "UPPERCASE_LETTER", type := .byte, accessFlags := 25, slot := 6, constantValue := 0 }, { name := "LOWERCASE_LETTER", type := .byte, accessFlags := 25, slot := 7, constantValue := 0 }, { name := "TITLECASE_LETTER", type := .byte, accessFlags := 25, slot := 8, constantValue := 0 }, { name := "MODIFIER_LETTER", type := .byte, accessFlags := 25, slot := 9, constantValue := 0 }, { name := "OTHER_LETTER", type := .byte, accessFlags := 25, slot := 10, constantValue := 0 }, { name := "NON_SPACING_MARK", type := .byte, accessFlags := 25, slot := 11, constantValue := 0 }, { name := "ENCLOSING_MARK", type := .byte, accessFlags := 25, slot := 12, constantValue := 0 }, { name := "COMBINING_SPACING_MARK", type := .byte, accessFlags := 25, slot := 13, constantValue := 0 }, { name := "DECIMAL_DIGIT_NUMBER", type := .byte, accessFlags := 25, slot := 14, constantValue := 0 }, { name := "LETTER_NUMBER", type := .byte, accessFlags := 25, slot := 15, constantValue := 0 }, { name := "OTHER_NUMBER", type := .byte, accessFlags := 25, slot := 16, constantValue := 0 }, { name := "SPACE_SEPARATOR", type := .byte, accessFlags := 25, slot := 17, constantValue := 0 }, { name := "LINE_SEPARATOR", type := .byte, accessFlags := 25, slot := 18, constantValue := 0 }, { name := "PARAGRAPH_SEPARATOR", type := .byte, accessFlags := 25, slot := 19, constantValue := 0 }, { name := "CONTROL", type := .byte, accessFlags := 25, slot := 20, constantValue := 0 }, { name := "FORMAT", type := .byte, accessFlags := 25, slot := 21, constantValue := 0 }, { name := "PRIVATE_USE", type := .byte, accessFlags := 25, slot := 22, constantValue := 0 }, { name := "SURROGATE", type := .byte, accessFlags := 25, slot := 23, constantValue := 0 }, { name := "DASH_PUNCTUATION", type := .byte, accessFlags := 25, slot := 24, constantValue := 0 }, { name := "START_PUNCTUATION", type := .byte, accessFlags := 25, slot := 25, constantValue := 0 }, { name := "END_PUNCTUATION", type := .byte, accessFlags := 25, slot := 26, constantValue := 0 }, { name := "CONNECTOR_PUNCTUATION", type := .byte, accessFlags := 25, slot := 27, constantValue := 0 }, { name := "OTHER_PUNCTUATION", type := .byte, accessFlags := 25, slot := 28, constantValue := 0 }, { name := "MATH_SYMBOL", type := .byte, accessFlags := 25, slot := 29, constantValue := 0 }, { name := "CURRENCY_SYMBOL", type := .byte, accessFlags := 25, slot := 30, constantValue := 0 }, { name := "MODIFIER_SYMBOL", type := .byte, accessFlags := 25, slot := 31, constantValue := 0 }, { name := "OTHER_SYMBOL", type := .byte, accessFlags := 25, slot := 32, constantValue := 0 }, { name := "INITIAL_QUOTE_PUNCTUATION", type := .byte, accessFlags := 25, slot := 33, constantValue := 0 }, { name := "FINAL_QUOTE_PUNCTUATION", type := .byte, accessFlags := 25, slot := 34, constantValue := 0 }, { name := "ERROR", type := .int, accessFlags := 24, slot := 35, constantValue := 0 }, { name := "DIRECTIONALITY_UNDEFINED", type := .byte, accessFlags := 25, slot := 36, constantValue := 0 }, { name := "DIRECTIONALITY_LEFT_TO_RIGHT", type := .byte, accessFlags := 25, slot := 37, constantValue := 0 }, { name := "DIRECTIONALITY_RIGHT_TO_LEFT", type := .byte, accessFlags := 25, slot := 38, constantValue := 0 }, { name := "DIRECTIONALITY_RIGHT_TO_LEFT_ARABIC", type := .byte, accessFlags := 25, slot := 39, constantValue := 0 }, { name := "DIRECTIONALITY_EUROPEAN_NUMBER", type := .byte, accessFlags := 25, slot := 40, constantValue := 0 }, { name := "DIRECTIONALITY_EUROPEAN_NUMBER_SEPARATOR", type := .byte, accessFlags := 25, slot := 41, constantValue := 0 }, { name := "DIRECTIONALITY_EUROPEAN_NUMBER_TERMINATOR", type := .byte, accessFlags := 25, slot := 42, constantValue := 0 }, { name := "DIRECTIONALITY_ARABIC_NUMBER", type := .byte, accessFlags := 25, slot := 43, constantValue := 0 }, { name := "DIRECTIONALITY_COMMON_NUMBER_SEPARATOR", type := .byte, accessFlags := 25, slot := 44, constantValue := 0 }, { name := "DIRECTIONALITY_NONSPACING_MARK", type := .byte, accessFlags := 25, slot := 45, constantValue := 0 }, { name := "DIRECTIONALITY_BOUNDARY_NEUTRAL", type := .byte, accessFlags := 25, slot := 46, constantValue := 0 }, { name := "DIRECTIONALITY_PARAGRAPH_SEPARATOR", type := .byte, accessFlags := 25, slot := 47, constantValue := 0 }, { name := "DIRECTIONALITY_SEGMENT_SEPARATOR", type := .byte, accessFlags := 25, slot := 48, constantValue := 0 }, { name := "DIRECTIONALITY_WHITESPACE", type := .byte, accessFlags := 25, slot := 49, constantValue := 0 }, { name := "DIRECTIONALITY_OTHER_NEUTRALS", type := .byte, accessFlags := 25, slot := 50, constantValue := 0 }, { name := "DIRECTIONALITY_LEFT_TO_RIGHT_EMBEDDING", type := .byte, accessFlags := 25, slot := 51, constantValue := 0 }, { name := "DIRECTIONALITY_LEFT_TO_RIGHT_OVERRIDE", type := .byte, accessFlags := 25, slot := 52, constantValue := 0 }, { name := "DIRECTIONALITY_RIGHT_TO_LEFT_EMBEDDING", type := .byte, accessFlags := 25, slot := 53, constantValue := 0 }, { name := "DIRECTIONALITY_RIGHT_TO_LEFT_OVERRIDE", type := .byte, accessFlags := 25, slot := 54, constantValue := 0 }, { name := "DIRECTIONALITY_POP_DIRECTIONAL_FORMAT", type := .byte, accessFlags := 25, slot := 55, constantValue := 0 }, { name := "DIRECTIONALITY_LEFT_TO_RIGHT_ISOLATE", type := .byte, accessFlags := 25, slot := 56, constantValue := 0 }, { name := "DIRECTIONALITY_RIGHT_TO_LEFT_ISOLATE", type := .byte, accessFlags := 25, slot := 57, constantValue := 0 }, { name := "DIRECTIONALITY_FIRST_STRONG_ISOLATE", type := .byte, accessFlags := 25, slot := 58, constantValue := 0 }, { name := "DIRECTIONALITY_POP_DIRECTIONAL_ISOLATE", type := .byte, accessFlags := 25, slot := 59, constantValue := 0 }, { name := "MIN_HIGH_SURROGATE", type := .char, accessFlags := 25, slot := 60, constantValue := 0 }, { name := "MAX_HIGH_SURROGATE", type := .char, accessFlags := 25, slot := 61, constantValue := 0 }, { name := "MIN_LOW_SURROGATE", type := .char, accessFlags := 25, slot := 62, constantValue := 0 }, { name := "MAX_LOW_SURROGATE", type := .char, accessFlags := 25, slot := 63, constantValue := 0 }, { name := "MIN_SURROGATE", type := .char, accessFlags := 25, slot := 64, constantValue := 0 }, { name := "MAX_SURROGATE", type := .char, accessFlags := 25, slot := 65, constantValue := 0 }, { name := "MIN_SUPPLEMENTARY_CODE_POINT", type := .int, accessFlags := 25, slot := 66, constantValue := 0 }, { name := "MIN_CODE_POINT", type := .int, accessFlags := 25, slot := 67, constantValue := 0 }, { name := "MAX_CODE_POINT", type := .int, accessFlags := 25, slot := 68, constantValue := 0 }, { name := "value", type := .char, accessFlags := 18, slot := 0, constantValue := 0 }, { name := "serialVersionUID", type := .long, accessFlags := 26, slot := 69, constantValue := 0 }, { name := "SIZE", type := .int, accessFlags := 25, slot := 70, constantValue := 0 }, { name := "BYTES", type := .int, accessFlags := 25, slot := 71, constantValue := 0 }, { name := "$assertionsDisabled", type := .boolean, accessFlags := 4120, slot := 72, constantValue := 0 }]
  methods := #[k15m0]
  instanceTypes := #[.char]
  staticTypes := #[.int, .int, .char, .char, (.object "java/lang/Class"), .byte, .byte, .byte, .byte, .byte, .byte, .byte, .byte, .byte, .byte, .byte, .byte, .byte, .byte, .byte, .byte, .byte, .byte, .byte, .byte, .byte, .byte, .byte, .byte, .byte, .byte, .byte, .byte, .byte, .byte, .int, .byte, .byte, .byte, .byte, .byte, .byte, .byte, .byte, .byte, .byte, .byte, .byte, .byte, .byte, .byte, .byte, .byte, .byte, .byte, .byte, .byte, .byte, .byte, .byte, .char, .char, .char, .char, .char, .char, .int, .int, .int, .long, .int, .int, .boolean]
  resolved := Array.replicate 604 none
  statics := none }

def pool16 : Array CpInfo := pool [(9, u "<init>"), (6, .class_ 18), (1, u "java/lang/Object"), (0, u "()V"), (1, .class_ 23), (1, u "jdk/internal/util/ArraysSupport"), (0, u "LOG2_ARRAY_LONG_INDEX_SCALE"), (0, u "I"), (2, u "U"), (0, u "Ljdk/internal/misc/Unsafe;"), (8, u "BIG_ENDIAN"), (0, u "Z"), (8, u "LOG2_BYTE_BIT_SIZE"), (4, u "LOG2_ARRAY_INT_INDEX_SCALE"), (54, u "JLA"), (0, u "Ljdk/internal/access/JavaLangAccess;"), (11, u "LOG2_ARRAY_BOOLEAN_INDEX_SCALE"), (9, u "LOG2_ARRAY_BYTE_INDEX_SCALE"), (5, u "LOG2_ARRAY_CHAR_INDEX_SCALE"), (5, u "LOG2_ARRAY_SHORT_INDEX_SCALE"), (18, u "LOG2_ARRAY_FLOAT_INDEX_SCALE"), (24, u "LOG2_ARRAY_DOUBLE_INDEX_SCALE"), (89, u "T_BOOLEAN"), (2, u "T_CHAR"), (1, u "T_FLOAT"), (1, u "T_DOUBLE"), (1, u "T_BYTE"), (1, u "T_SHORT"), (1, u "T_INT"), (1, u "T_LONG"), (1, u "SOFT_MAX_ARRAY_LENGTH")] 83

def k16m0 : Method := { name := "<init>", desc := "()V", sig := { parameters := [], returnType := none }, accessFlags := 2, code := none }
/-- jdk/internal/util/ArraysSupport -/
def k16 : Class := { plain "jdk/internal/util/ArraysSupport" (some 0) with
  accessFlags := 33
  interfaces := #[]
  cf := some (fileOf pool16 21 #[] #[{ accessFlags := 2, nameIndex := 9, descriptorIndex := 19, attributes := #[] }] 33 16 #[] #[{ accessFlags := 24, nameIndex := 28, descriptorIndex := 29, attributes := #[] }, { accessFlags := 26, nameIndex := 38, descriptorIndex := 39, attributes := #[] }, { accessFlags := 25, nameIndex := 121, descriptorIndex := 25, attributes := #[] }, { accessFlags := 25, nameIndex := 131, descriptorIndex := 25, attributes := #[] }, { accessFlags := 25, nameIndex := 137, descriptorIndex := 25, attributes := #[] }, { accessFlags := 25, nameIndex := 143, descriptorIndex := 25, attributes := #[] }, { accessFlags := 25, nameIndex := 53, descriptorIndex := 25, attributes := #[] }, { accessFlags := 25, nameIndex := 24, descriptorIndex := 25, attributes := #[] }, { accessFlags := 25, nameIndex := 162, descriptorIndex := 25, attributes := #[] }, { accessFlags := 25, nameIndex := 187, descriptorIndex := 25, attributes := #[] }, { accessFlags := 26, nameIndex := 48, descriptorIndex := 25, attributes := #[] }, { accessFlags := 25, nameIndex := 277, descriptorIndex := 25, attributes := #[] }, { accessFlags := 25, nameIndex := 280, descriptorIndex := 25, attributes := #[] }, { accessFlags := 25, nameIndex := 282, descriptorIndex := 25, attributes := #[] }, { accessFlags := 25, nameIndex := 284, descriptorIndex := 25, attributes := #[] }, { accessFlags := 25, nameIndex := 286, descriptorIndex := 25, attributes := #[] }, { accessFlags := 25, nameIndex := 288, descriptorIndex := 25, attributes := #[] }, { accessFlags := 25, nameIndex := 290, descriptorIndex := 25, attributes := #[] }, { accessFlags := 25, nameIndex := 292, descriptorIndex := 25, attributes := #[] }, { accessFlags := 26, nameIndex := 108, descriptorIndex := 109, attributes := #[] }, { accessFlags := 25, nameIndex := 294, descriptorIndex := 25, attributes := #[] }])
  fields := #[{ name := "U", type := (.object "jdk/internal/misc/Unsafe"), accessFlags := 24, slot := 0, constantValue := 0 }, { name := "BIG_ENDIAN", type := .boolean, accessFlags := 26, slot := 1, constantValue := 0 }, { name := "LOG2_ARRAY_BOOLEAN_INDEX_SCALE", type := .int, accessFlags := 25, slot := 2, constantValue := 0 }, { name := "LOG2_ARRAY_BYTE_INDEX_SCALE", type := .int, accessFlags := 25, slot := 3, constantValue := 0 }, { name := "LOG2_ARRAY_CHAR_INDEX_SCALE", type := .int, accessFlags := 25, slot := 4, constantValue := 0 }, { name := "LOG2_ARRAY_SHORT_INDEX_SCALE", type := .int, accessFlags := 25, slot := 5, constantValue := 0 }, { name := "LOG2_ARRAY_INT_INDEX_SCALE", type := .int, accessFlags := 25, slot := 6, constantValue := 0 }, { name := "LOG2_ARRAY_LONG_INDEX_SCALE", type := .int, accessFlags := 25, slot := 7, constantValue := 0 }, { name := "LOG2_ARRAY_FLOAT_INDEX_SCALE", type := .int, accessFlags := 25, slot := 8, constantValue := 0 }, { name := "LOG2_ARRAY_DOUBLE_INDEX_SCALE", type := .int, accessFlags := 25, slot := 9, constantValue := 0 }, { name := "LOG2_BYTE_BIT_SIZE", type := .int, accessFlags := 26, slot := 10, constantValue := 0 }, { name := "T_BOOLEAN", type := .int, accessFlags := 25, slot := 11, constantValue := 0 }, { name := "T_CHAR", type := .int, accessFlags := 25, slot := 12, constantValue := 0 }, { name := "T_FLOAT", type := .int, accessFlags := 25, slot := 13, constantValue := 0 }, { name := "T_DOUBLE", type := .int, accessFlags := 25, slot := 14, constantValue := 0 }, { name := "T_BYTE", type := .int, accessFlags := 25, slot := 15, constantValue := 0 }, { name := "T_SHORT", type := .int, accessFlags := 25, slot := 16, constantValue := 0 }, { name := "T_INT", type := .int, accessFlags := 25, slot := 17, constantValue := 0 }, { name := "T_LONG", type := .int, accessFlags := 25, slot := 18, constantValue := 0 }, { name := "JLA", type := (.object "jdk/internal/access/JavaLangAccess"), accessFlags := 26, slot := 19, constantValue := 0 }, { name := "SOFT_MAX_ARRAY_LENGTH", type := .int, accessFlags := 25, slot := 20, constantValue := 0 }]
  methods := #[k16m0]
  instanceTypes := #[]
  staticTypes := #[(.object "jdk/internal/misc/Unsafe"), .boolean, .int, .int, .int, .int, .int, .int, .int, .int, .int, .int, .int, .int, .int, .int, .int, .int, .int, (.object "jdk/internal/access/JavaLangAccess"), .int]
  resolved := Array.replicate 378 none
  statics := none }

def pool17 : Array CpInfo := pool [(1, u "java/lang/Cloneable"), (0, .class_ 1), (0, u "java/lang/Object"), (0, .class_ 3)] 3

/-- java/lang/Cloneable -/
def k17 : Class := { plain "java/lang/Cloneable" (some 0) with
  accessFlags := 1537
  interfaces := #[]
  cf := some (fileOf pool17 2 #[] #[] 1537 4 #[] #[])
  fields := #[]
  methods := #[]
  instanceTypes := #[]
  staticTypes := #[]
  resolved := Array.replicate 8 none
  statics := none }

/-- the primitive byte -/
def k18 : Class := { plain "byte" none with kind := .primitive 'B', accessFlags := 0x411 }
/-- [B -/
def k19 : Class := { plain "[B" (some 0) with kind := .array 18 .byte, interfaces := #[17, 2], accessFlags := 1041 }

/-- the primitive char -/
def k20 : Class := { plain "char" none with kind := .primitive 'C', accessFlags := 0x411 }
/-- [C -/
def k21 : Class := { plain "[C" (some 0) with kind := .array 20 .char, interfaces := #[17, 2], accessFlags := 1041 }

/-- the primitive int -/
def k22 : Class := { plain "int" none with kind := .primitive 'I', accessFlags := 0x411 }
/-- [I -/
def k23 : Class := { plain "[I" (some 0) with kind := .array 22 .int, interfaces := #[17, 2], accessFlags := 1041 }

def heap : Heap := #[{ cls := 7, slots := #[.long 0, .int 1, .null, .int 0, .null, .int 0, .int 0], vm := .statics 7 },
  { cls := 8, slots := #[.int 0, .int 8, .int 0, .int 1], vm := .statics 8 },
  { cls := 14, slots := #[.null, .null, .null], vm := .statics 14 }]
def classes : Array Class := #[k0, k1, k2, k3, k4, k5, k6, k7, k8, k9, k10, k11, k12, k13, k14, k15, k16, k17, k18, k19, k20, k21, k22, k23]
def interned : List (Array UInt16 × Addr) := []
def slotsUsed : Nat := 14
def theMethod : MethodId := ⟨1, 1⟩
def args0 : Array Value := #[.int 1, .int 65, .int 300, .int 5]
def aboutOver (below : List Frame) : State where
  vm := { classes := classes, interned := interned.toArray }
  heap := heap
  slotsUsed := slotsUsed
  threads := #[{ frames := .invoking theMethod args0 :: below }]
def below0 : List Frame := [.native { method := ⟨0, 0⟩, args := #[] }]
def about1 : State := aboutOver below0
def p0 : Program := .bare "" "" ""
def e0 : Env := launch0.env 0 0 0
theorem w_frames : about1.frames = Frame.invoking theMethod args0 :: below0 := rfl
set_option maxRecDepth 65536 in
theorem w_args : argsFit about1.vm theMethod args0 = true := by decide +kernel
set_option maxRecDepth 65536 in
theorem w_heap : heapFits about1 = true := by decide +kernel
set_option maxRecDepth 65536 in
theorem w_runnable : about1.curStatus? = some .runnable := by decide +kernel
set_option maxRecDepth 65536 in
theorem w_alone : about1.alone = true := by decide +kernel
set_option maxRecDepth 65536 in
theorem w_named : about1.methodNamed? x = some theMethod := by decide +kernel
set_option maxRecDepth 65536 in
theorem w_hears : about1.hears theMethod below0 = true := by decide +kernel
set_option maxRecDepth 65536 in
theorem w_ripe : about1.ripe theMethod args0 below0 = true := by decide +kernel
theorem w_running : about1.status = .running := rfl
set_option maxRecDepth 65536 in
theorem w_room : about1.hasRoom e0.platform room_1 = true :=
  launch0.hasRoom_least _ room_1 (by decide +kernel) (by decide +kernel) (by decide +kernel) (by decide +kernel) (by decide +kernel) (by decide +kernel)
theorem allAtoms_all (ts : List Jvm.Cond) (a : Array Jvm.Value) (st : Jvm.State) : (allAtoms ts).before a st = ts.all (fun c => c.before a st) := by
  induction ts with
  | nil => rfl
  | cons c t ih =>
    show (Jvm.Cond.and c (allAtoms t)).before a st = _
    rw [Jvm.Cond.before_and, ih, List.all_cons]
def words1 : List Jvm.Cond := Jvm.Cond.code x code maxLocals ret :: tables_1
/-- a 'code' word, met by the world's own term for the bytes: nothing is compared byte by byte -/
theorem code_word {y : MethodName} {bytes : ByteArray} {mx : Nat} {rt : Option FieldType} {a : Array Value} {s : State} {m : MethodId} {meth : Method} {c : Code} (h1 : s.methodNamed? y = some m) (h2 : s.vm.method? m = some meth) (h3 : meth.code = some c) (h4 : c.code = bytes)
    (h5 : (c.maxLocals == mx && c.exceptionTable.isEmpty && decide (c.maxStack ≤ mostOperands) && decide (meth.sig.returnType = rt) && !meth.locks && decide (parseMethodDescriptor y.desc = some meth.sig)) = true) : (Jvm.Cond.code y bytes mx rt).before a s = true := by
  simp only [Bool.and_eq_true, beq_iff_eq, Bool.not_eq_true', decide_eq_true_eq] at h5
  obtain ⟨⟨⟨⟨⟨g1, g2⟩, g3⟩, g4⟩, g5⟩, g6⟩ := h5
  simp [Cond.before, Cond.holds, Cond.value, h1, h2, h3, h4, g1, g2, g3, g4, g5, g6]
def isCode : Jvm.Cond → Bool
  | .code _ _ _ _ => true
  | _ => false
theorem all_split {L : List Jvm.Cond} {P : Jvm.Cond → Bool} (h1 : L.all (fun c => isCode c || P c) = true) (h2 : ∀ c ∈ L.filter isCode, P c = true) : L.all P = true := by
  refine List.all_eq_true.mpr fun c hc => ?_
  have h := List.all_eq_true.mp h1 c hc
  rcases Bool.eq_false_or_eq_true (isCode c) with hi | hi
  · exact h2 c (List.mem_filter.mpr ⟨hc, hi⟩)
  · simpa [hi] using h
set_option maxRecDepth 65536 in
theorem w_c0 : (Jvm.Cond.code x code maxLocals ret).before args0 about1 = true := code_word (m := ⟨1, 1⟩) (meth := k1m1) (c := k1c1) (by decide +kernel) rfl rfl rfl (by decide +kernel)
set_option maxRecDepth 65536 in
theorem w_c1 : (Jvm.Cond.code ({ cls := "com/example/whole_session/wholesession/RunCompareUtf8PinLaw", name := "str", desc := "(ICCC)Ljava/lang/String;" } : Jvm.MethodName) method_3_code (4 : Nat) (Option.some (Jvm.ClassFile.FieldType.object "java/lang/String"))).before args0 about1 = true := code_word (m := ⟨1, 2⟩) (meth := k1m2) (c := k1c2) (by decide +kernel) rfl rfl rfl (by decide +kernel)
set_option maxRecDepth 65536 in
theorem w_c2 : (Jvm.Cond.code ({ cls := "java/lang/String", name := "<init>", desc := "([C)V" } : Jvm.MethodName) jdk_42_method_3_code (2 : Nat) (Option.none : Option Jvm.ClassFile.FieldType)).before args0 about1 = true := code_word (m := ⟨7, 1⟩) (meth := k7m1) (c := k7c1) (by decide +kernel) rfl rfl rfl (by decide +kernel)
set_option maxRecDepth 65536 in
theorem w_c3 : (Jvm.Cond.code ({ cls := "java/lang/String", name := "<init>", desc := "([CIILjava/lang/Void;)V" } : Jvm.MethodName) jdk_42_method_149_code (6 : Nat) (Option.none : Option Jvm.ClassFile.FieldType)).before args0 about1 = true := code_word (m := ⟨7, 4⟩) (meth := k7m4) (c := k7c4) (by decide +kernel) rfl rfl rfl (by decide +kernel)
set_option maxRecDepth 65536 in
theorem w_c4 : (Jvm.Cond.code ({ cls := "java/lang/Object", name := "<init>", desc := "()V" } : Jvm.MethodName) object_method_1_code (1 : Nat) (Option.none : Option Jvm.ClassFile.FieldType)).before args0 about1 = true := code_word (m := ⟨0, 0⟩) (meth := k0m0) (c := k0c0) (by decide +kernel) rfl rfl rfl (by decide +kernel)
set_option maxRecDepth 65536 in
theorem w_c5 : (Jvm.Cond.code ({ cls := "java/lang/StringUTF16", name := "compress", desc := "([CII)[B" } : Jvm.MethodName) jdk_52_method_16_code (6 : Nat) (Option.some (Jvm.ClassFile.FieldType.array Jvm.ClassFile.FieldType.byte))).before args0 about1 = true := code_word (m := ⟨8, 8⟩) (meth := k8m8) (c := k8c8) (by decide +kernel) rfl rfl rfl (by decide +kernel)
set_option maxRecDepth 65536 in
theorem w_c6 : (Jvm.Cond.code ({ cls := "java/lang/StringUTF16", name := "compress", desc := "([CI[BII)I" } : Jvm.MethodName) jdk_52_method_21_code (7 : Nat) (Option.some Jvm.ClassFile.FieldType.int)).before args0 about1 = true := code_word (m := ⟨8, 9⟩) (meth := k8m9) (c := k8c9) (by decide +kernel) rfl rfl rfl (by decide +kernel)
set_option maxRecDepth 65536 in
theorem w_c7 : (Jvm.Cond.code ({ cls := "java/lang/StringUTF16", name := "coderFromArrayLen", desc := "([BI)B" } : Jvm.MethodName) jdk_52_method_15_code (2 : Nat) (Option.some Jvm.ClassFile.FieldType.byte)).before args0 about1 = true := code_word (m := ⟨8, 7⟩) (meth := k8m7) (c := k8c7) (by decide +kernel) rfl rfl rfl (by decide +kernel)
set_option maxRecDepth 65536 in
theorem w_c8 : (Jvm.Cond.code ({ cls := "com/example/whole_session/wholesession/Run", name := "compareUtf8", desc := "(Ljava/lang/String;Ljava/lang/String;)I" } : Jvm.MethodName) prog_41_method_13_code (6 : Nat) (Option.some Jvm.ClassFile.FieldType.int)).before args0 about1 = true := code_word (m := ⟨9, 0⟩) (meth := k9m0) (c := k9c0) (by decide +kernel) rfl rfl rfl (by decide +kernel)
set_option maxRecDepth 65536 in
theorem w_c9 : (Jvm.Cond.code ({ cls := "java/lang/String", name := "length", desc := "()I" } : Jvm.MethodName) jdk_42_method_54_code (1 : Nat) (Option.some Jvm.ClassFile.FieldType.int)).before args0 about1 = true := code_word (m := ⟨7, 2⟩) (meth := k7m2) (c := k7c2) (by decide +kernel) rfl rfl rfl (by decide +kernel)
set_option maxRecDepth 65536 in
theorem w_c10 : (Jvm.Cond.code ({ cls := "java/lang/String", name := "coder", desc := "()B" } : Jvm.MethodName) jdk_42_method_152_code (1 : Nat) (Option.some Jvm.ClassFile.FieldType.byte)).before args0 about1 = true := code_word (m := ⟨7, 5⟩) (meth := k7m5) (c := k7c5) (by decide +kernel) rfl rfl rfl (by decide +kernel)
set_option maxRecDepth 65536 in
theorem w_c11 : (Jvm.Cond.code ({ cls := "java/lang/Math", name := "min", desc := "(II)I" } : Jvm.MethodName) jdk_29_method_69_code (2 : Nat) (Option.some Jvm.ClassFile.FieldType.int)).before args0 about1 = true := code_word (m := ⟨10, 1⟩) (meth := k10m1) (c := k10c1) (by decide +kernel) rfl rfl rfl (by decide +kernel)
set_option maxRecDepth 65536 in
theorem w_c12 : (Jvm.Cond.code ({ cls := "java/lang/Integer", name := "compare", desc := "(II)I" } : Jvm.MethodName) jdk_33_method_40_code (2 : Nat) (Option.some Jvm.ClassFile.FieldType.int)).before args0 about1 = true := code_word (m := ⟨12, 0⟩) (meth := k12m0) (c := k12c0) (by decide +kernel) rfl rfl rfl (by decide +kernel)
set_option maxRecDepth 65536 in
theorem w_c13 : (Jvm.Cond.code ({ cls := "com/example/whole_session/wholesession/RunCompareUtf8PinLaw", name := "sign", desc := "(I)I" } : Jvm.MethodName) method_4_code (1 : Nat) (Option.some Jvm.ClassFile.FieldType.int)).before args0 about1 = true := code_word (m := ⟨1, 3⟩) (meth := k1m3) (c := k1c3) (by decide +kernel) rfl rfl rfl (by decide +kernel)
set_option maxRecDepth 65536 in
theorem w_c14 : (Jvm.Cond.code ({ cls := "com/example/whole_session/wholesession/RunCompareUtf8PinLaw", name := "reference", desc := "(ICCCICCC)I" } : Jvm.MethodName) method_6_code (9 : Nat) (Option.some Jvm.ClassFile.FieldType.int)).before args0 about1 = true := code_word (m := ⟨1, 5⟩) (meth := k1m5) (c := k1c5) (by decide +kernel) rfl rfl rfl (by decide +kernel)
set_option maxRecDepth 65536 in
theorem w_c15 : (Jvm.Cond.code ({ cls := "java/lang/String", name := "charAt", desc := "(I)C" } : Jvm.MethodName) jdk_42_method_56_code (2 : Nat) (Option.some Jvm.ClassFile.FieldType.char)).before args0 about1 = true := code_word (m := ⟨7, 3⟩) (meth := k7m3) (c := k7c3) (by decide +kernel) rfl rfl rfl (by decide +kernel)
set_option maxRecDepth 65536 in
theorem w_c16 : (Jvm.Cond.code ({ cls := "java/lang/String", name := "isLatin1", desc := "()Z" } : Jvm.MethodName) jdk_42_method_154_code (1 : Nat) (Option.some Jvm.ClassFile.FieldType.boolean)).before args0 about1 = true := code_word (m := ⟨7, 6⟩) (meth := k7m6) (c := k7c6) (by decide +kernel) rfl rfl rfl (by decide +kernel)
set_option maxRecDepth 65536 in
theorem w_c17 : (Jvm.Cond.code ({ cls := "java/lang/StringLatin1", name := "charAt", desc := "([BI)C" } : Jvm.MethodName) jdk_43_method_2_code (2 : Nat) (Option.some Jvm.ClassFile.FieldType.char)).before args0 about1 = true := code_word (m := ⟨13, 1⟩) (meth := k13m1) (c := k13c1) (by decide +kernel) rfl rfl rfl (by decide +kernel)
set_option maxRecDepth 65536 in
theorem w_c18 : (Jvm.Cond.code ({ cls := "java/lang/String", name := "checkIndex", desc := "(II)V" } : Jvm.MethodName) jdk_42_method_155_code (2 : Nat) (Option.none : Option Jvm.ClassFile.FieldType)).before args0 about1 = true := code_word (m := ⟨7, 7⟩) (meth := k7m7) (c := k7c7) (by decide +kernel) rfl rfl rfl (by decide +kernel)
set_option maxRecDepth 65536 in
theorem w_c19 : (Jvm.Cond.code ({ cls := "jdk/internal/util/Preconditions", name := "checkIndex", desc := "(IILjava/util/function/BiFunction;)I" } : Jvm.MethodName) jdk_41_method_11_code (3 : Nat) (Option.some Jvm.ClassFile.FieldType.int)).before args0 about1 = true := code_word (m := ⟨14, 1⟩) (meth := k14m1) (c := k14c1) (by decide +kernel) rfl rfl rfl (by decide +kernel)
set_option maxRecDepth 65536 in
theorem w_c20 : (Jvm.Cond.code ({ cls := "com/example/whole_session/wholesession/Run", name := "codePointOrder", desc := "(C)I" } : Jvm.MethodName) prog_41_method_14_code (1 : Nat) (Option.some Jvm.ClassFile.FieldType.int)).before args0 about1 = true := code_word (m := ⟨9, 1⟩) (meth := k9m1) (c := k9c1) (by decide +kernel) rfl rfl rfl (by decide +kernel)
set_option maxRecDepth 65536 in
theorem w_c21 : (Jvm.Cond.code ({ cls := "java/lang/Character", name := "isSurrogate", desc := "(C)Z" } : Jvm.MethodName) jdk_89_method_16_code (1 : Nat) (Option.some Jvm.ClassFile.FieldType.boolean)).before args0 about1 = true := code_word (m := ⟨15, 0⟩) (meth := k15m0) (c := k15c0) (by decide +kernel) rfl rfl rfl (by decide +kernel)
set_option maxRecDepth 65536 in
theorem w_c22 : (Jvm.Cond.code ({ cls := "com/example/whole_session/wholesession/RunCompareUtf8PinLaw", name := "rank", desc := "(C)I" } : Jvm.MethodName) method_5_code (1 : Nat) (Option.some Jvm.ClassFile.FieldType.int)).before args0 about1 = true := code_word (m := ⟨1, 4⟩) (meth := k1m4) (c := k1c4) (by decide +kernel) rfl rfl rfl (by decide +kernel)
set_option maxRecDepth 65536 in
theorem w_c23 : (Jvm.Cond.code ({ cls := "java/lang/StringUTF16", name := "toBytes", desc := "([CII)[B" } : Jvm.MethodName) jdk_52_method_14_code (5 : Nat) (Option.some (Jvm.ClassFile.FieldType.array Jvm.ClassFile.FieldType.byte))).before args0 about1 = true := code_word (m := ⟨8, 6⟩) (meth := k8m6) (c := k8c6) (by decide +kernel) rfl rfl rfl (by decide +kernel)
set_option maxRecDepth 65536 in
theorem w_c24 : (Jvm.Cond.code ({ cls := "java/lang/StringUTF16", name := "newBytesFor", desc := "(I)[B" } : Jvm.MethodName) jdk_52_method_2_code (1 : Nat) (Option.some (Jvm.ClassFile.FieldType.array Jvm.ClassFile.FieldType.byte))).before args0 about1 = true := code_word (m := ⟨8, 1⟩) (meth := k8m1) (c := k8c1) (by decide +kernel) rfl rfl rfl (by decide +kernel)
set_option maxRecDepth 65536 in
theorem w_c25 : (Jvm.Cond.code ({ cls := "java/lang/StringUTF16", name := "newBytesLength", desc := "(I)I" } : Jvm.MethodName) jdk_52_method_3_code (1 : Nat) (Option.some Jvm.ClassFile.FieldType.int)).before args0 about1 = true := code_word (m := ⟨8, 2⟩) (meth := k8m2) (c := k8c2) (by decide +kernel) rfl rfl rfl (by decide +kernel)
set_option maxRecDepth 65536 in
theorem w_c26 : (Jvm.Cond.code ({ cls := "java/lang/StringUTF16", name := "putChar", desc := "([BII)V" } : Jvm.MethodName) jdk_52_method_4_code (3 : Nat) (Option.none : Option Jvm.ClassFile.FieldType)).before args0 about1 = true := code_word (m := ⟨8, 3⟩) (meth := k8m3) (c := k8c3) (by decide +kernel) rfl rfl rfl (by decide +kernel)
set_option maxRecDepth 65536 in
theorem w_c27 : (Jvm.Cond.code ({ cls := "java/lang/StringUTF16", name := "getChar", desc := "([BI)C" } : Jvm.MethodName) jdk_52_method_5_code (2 : Nat) (Option.some Jvm.ClassFile.FieldType.char)).before args0 about1 = true := code_word (m := ⟨8, 4⟩) (meth := k8m4) (c := k8c4) (by decide +kernel) rfl rfl rfl (by decide +kernel)
set_option maxRecDepth 65536 in
theorem w_c28 : (Jvm.Cond.code ({ cls := "java/lang/StringUTF16", name := "charAt", desc := "([BI)C" } : Jvm.MethodName) jdk_52_method_83_code (2 : Nat) (Option.some Jvm.ClassFile.FieldType.char)).before args0 about1 = true := code_word (m := ⟨8, 10⟩) (meth := k8m10) (c := k8c10) (by decide +kernel) rfl rfl rfl (by decide +kernel)
set_option maxRecDepth 65536 in
theorem w_c29 : (Jvm.Cond.code ({ cls := "java/lang/StringUTF16", name := "checkIndex", desc := "(I[B)V" } : Jvm.MethodName) jdk_52_method_91_code (2 : Nat) (Option.none : Option Jvm.ClassFile.FieldType)).before args0 about1 = true := code_word (m := ⟨8, 11⟩) (meth := k8m11) (c := k8c11) (by decide +kernel) rfl rfl rfl (by decide +kernel)
set_option maxRecDepth 65536 in
theorem w_c30 : (Jvm.Cond.code ({ cls := "java/lang/StringUTF16", name := "length", desc := "([B)I" } : Jvm.MethodName) jdk_52_method_6_code (1 : Nat) (Option.some Jvm.ClassFile.FieldType.int)).before args0 about1 = true := code_word (m := ⟨8, 5⟩) (meth := k8m5) (c := k8c5) (by decide +kernel) rfl rfl rfl (by decide +kernel)
def codes1 : List Jvm.Cond := [Jvm.Cond.code x code maxLocals ret, Jvm.Cond.code ({ cls := "com/example/whole_session/wholesession/RunCompareUtf8PinLaw", name := "str", desc := "(ICCC)Ljava/lang/String;" } : Jvm.MethodName) method_3_code (4 : Nat) (Option.some (Jvm.ClassFile.FieldType.object "java/lang/String")), Jvm.Cond.code ({ cls := "java/lang/String", name := "<init>", desc := "([C)V" } : Jvm.MethodName) jdk_42_method_3_code (2 : Nat) (Option.none : Option Jvm.ClassFile.FieldType), Jvm.Cond.code ({ cls := "java/lang/String", name := "<init>", desc := "([CIILjava/lang/Void;)V" } : Jvm.MethodName) jdk_42_method_149_code (6 : Nat) (Option.none : Option Jvm.ClassFile.FieldType), Jvm.Cond.code ({ cls := "java/lang/Object", name := "<init>", desc := "()V" } : Jvm.MethodName) object_method_1_code (1 : Nat) (Option.none : Option Jvm.ClassFile.FieldType), Jvm.Cond.code ({ cls := "java/lang/StringUTF16", name := "compress", desc := "([CII)[B" } : Jvm.MethodName) jdk_52_method_16_code (6 : Nat) (Option.some (Jvm.ClassFile.FieldType.array Jvm.ClassFile.FieldType.byte)), Jvm.Cond.code ({ cls := "java/lang/StringUTF16", name := "compress", desc := "([CI[BII)I" } : Jvm.MethodName) jdk_52_method_21_code (7 : Nat) (Option.some Jvm.ClassFile.FieldType.int), Jvm.Cond.code ({ cls := "java/lang/StringUTF16", name := "coderFromArrayLen", desc := "([BI)B" } : Jvm.MethodName) jdk_52_method_15_code (2 : Nat) (Option.some Jvm.ClassFile.FieldType.byte), Jvm.Cond.code ({ cls := "com/example/whole_session/wholesession/Run", name := "compareUtf8", desc := "(Ljava/lang/String;Ljava/lang/String;)I" } : Jvm.MethodName) prog_41_method_13_code (6 : Nat) (Option.some Jvm.ClassFile.FieldType.int), Jvm.Cond.code ({ cls := "java/lang/String", name := "length", desc := "()I" } : Jvm.MethodName) jdk_42_method_54_code (1 : Nat) (Option.some Jvm.ClassFile.FieldType.int), Jvm.Cond.code ({ cls := "java/lang/String", name := "coder", desc := "()B" } : Jvm.MethodName) jdk_42_method_152_code (1 : Nat) (Option.some Jvm.ClassFile.FieldType.byte), Jvm.Cond.code ({ cls := "java/lang/Math", name := "min", desc := "(II)I" } : Jvm.MethodName) jdk_29_method_69_code (2 : Nat) (Option.some Jvm.ClassFile.FieldType.int), Jvm.Cond.code ({ cls := "java/lang/Integer", name := "compare", desc := "(II)I" } : Jvm.MethodName) jdk_33_method_40_code (2 : Nat) (Option.some Jvm.ClassFile.FieldType.int), Jvm.Cond.code ({ cls := "com/example/whole_session/wholesession/RunCompareUtf8PinLaw", name := "sign", desc := "(I)I" } : Jvm.MethodName) method_4_code (1 : Nat) (Option.some Jvm.ClassFile.FieldType.int), Jvm.Cond.code ({ cls := "com/example/whole_session/wholesession/RunCompareUtf8PinLaw", name := "reference", desc := "(ICCCICCC)I" } : Jvm.MethodName) method_6_code (9 : Nat) (Option.some Jvm.ClassFile.FieldType.int), Jvm.Cond.code ({ cls := "java/lang/String", name := "charAt", desc := "(I)C" } : Jvm.MethodName) jdk_42_method_56_code (2 : Nat) (Option.some Jvm.ClassFile.FieldType.char), Jvm.Cond.code ({ cls := "java/lang/String", name := "isLatin1", desc := "()Z" } : Jvm.MethodName) jdk_42_method_154_code (1 : Nat) (Option.some Jvm.ClassFile.FieldType.boolean), Jvm.Cond.code ({ cls := "java/lang/StringLatin1", name := "charAt", desc := "([BI)C" } : Jvm.MethodName) jdk_43_method_2_code (2 : Nat) (Option.some Jvm.ClassFile.FieldType.char), Jvm.Cond.code ({ cls := "java/lang/String", name := "checkIndex", desc := "(II)V" } : Jvm.MethodName) jdk_42_method_155_code (2 : Nat) (Option.none : Option Jvm.ClassFile.FieldType), Jvm.Cond.code ({ cls := "jdk/internal/util/Preconditions", name := "checkIndex", desc := "(IILjava/util/function/BiFunction;)I" } : Jvm.MethodName) jdk_41_method_11_code (3 : Nat) (Option.some Jvm.ClassFile.FieldType.int), Jvm.Cond.code ({ cls := "com/example/whole_session/wholesession/Run", name := "codePointOrder", desc := "(C)I" } : Jvm.MethodName) prog_41_method_14_code (1 : Nat) (Option.some Jvm.ClassFile.FieldType.int), Jvm.Cond.code ({ cls := "java/lang/Character", name := "isSurrogate", desc := "(C)Z" } : Jvm.MethodName) jdk_89_method_16_code (1 : Nat) (Option.some Jvm.ClassFile.FieldType.boolean), Jvm.Cond.code ({ cls := "com/example/whole_session/wholesession/RunCompareUtf8PinLaw", name := "rank", desc := "(C)I" } : Jvm.MethodName) method_5_code (1 : Nat) (Option.some Jvm.ClassFile.FieldType.int), Jvm.Cond.code ({ cls := "java/lang/StringUTF16", name := "toBytes", desc := "([CII)[B" } : Jvm.MethodName) jdk_52_method_14_code (5 : Nat) (Option.some (Jvm.ClassFile.FieldType.array Jvm.ClassFile.FieldType.byte)), Jvm.Cond.code ({ cls := "java/lang/StringUTF16", name := "newBytesFor", desc := "(I)[B" } : Jvm.MethodName) jdk_52_method_2_code (1 : Nat) (Option.some (Jvm.ClassFile.FieldType.array Jvm.ClassFile.FieldType.byte)), Jvm.Cond.code ({ cls := "java/lang/StringUTF16", name := "newBytesLength", desc := "(I)I" } : Jvm.MethodName) jdk_52_method_3_code (1 : Nat) (Option.some Jvm.ClassFile.FieldType.int), Jvm.Cond.code ({ cls := "java/lang/StringUTF16", name := "putChar", desc := "([BII)V" } : Jvm.MethodName) jdk_52_method_4_code (3 : Nat) (Option.none : Option Jvm.ClassFile.FieldType), Jvm.Cond.code ({ cls := "java/lang/StringUTF16", name := "getChar", desc := "([BI)C" } : Jvm.MethodName) jdk_52_method_5_code (2 : Nat) (Option.some Jvm.ClassFile.FieldType.char), Jvm.Cond.code ({ cls := "java/lang/StringUTF16", name := "charAt", desc := "([BI)C" } : Jvm.MethodName) jdk_52_method_83_code (2 : Nat) (Option.some Jvm.ClassFile.FieldType.char), Jvm.Cond.code ({ cls := "java/lang/StringUTF16", name := "checkIndex", desc := "(I[B)V" } : Jvm.MethodName) jdk_52_method_91_code (2 : Nat) (Option.none : Option Jvm.ClassFile.FieldType), Jvm.Cond.code ({ cls := "java/lang/StringUTF16", name := "length", desc := "([B)I" } : Jvm.MethodName) jdk_52_method_6_code (1 : Nat) (Option.some Jvm.ClassFile.FieldType.int)]
set_option maxRecDepth 65536 in
theorem codes_eq : words1.filter isCode = codes1 := rfl
theorem w_codes : ∀ c ∈ words1.filter isCode, c.before args0 about1 = true := by
  rw [codes_eq]
  intro c hc
  simp only [codes1, List.mem_cons, List.not_mem_nil, or_false] at hc
  rcases hc with rfl | rfl | rfl | rfl | rfl | rfl | rfl | rfl | rfl | rfl | rfl | rfl | rfl | rfl | rfl | rfl | rfl | rfl | rfl | rfl | rfl | rfl | rfl | rfl | rfl | rfl | rfl | rfl | rfl | rfl | rfl
  · exact w_c0
  · exact w_c1
  · exact w_c2
  · exact w_c3
  · exact w_c4
  · exact w_c5
  · exact w_c6
  · exact w_c7
  · exact w_c8
  · exact w_c9
  · exact w_c10
  · exact w_c11
  · exact w_c12
  · exact w_c13
  · exact w_c14
  · exact w_c15
  · exact w_c16
  · exact w_c17
  · exact w_c18
  · exact w_c19
  · exact w_c20
  · exact w_c21
  · exact w_c22
  · exact w_c23
  · exact w_c24
  · exact w_c25
  · exact w_c26
  · exact w_c27
  · exact w_c28
  · exact w_c29
  · exact w_c30
set_option maxRecDepth 65536 in
theorem w_t1 : (words1.take 24).all (fun c => isCode c || c.before args0 about1) = true := by decide +kernel
set_option maxRecDepth 65536 in
theorem w_t2 : ((words1.drop 24).take 24).all (fun c => isCode c || c.before args0 about1) = true := by decide +kernel
set_option maxRecDepth 65536 in
theorem w_t3 : (((words1.drop 24).drop 24).take 24).all (fun c => isCode c || c.before args0 about1) = true := by decide +kernel
set_option maxRecDepth 65536 in
theorem w_t4 : ((((words1.drop 24).drop 24).drop 24).take 24).all (fun c => isCode c || c.before args0 about1) = true := by decide +kernel
set_option maxRecDepth 65536 in
theorem w_t5 : (((((words1.drop 24).drop 24).drop 24).drop 24).take 24).all (fun c => isCode c || c.before args0 about1) = true := by decide +kernel
set_option maxRecDepth 65536 in
theorem w_t6 : (((((words1.drop 24).drop 24).drop 24).drop 24).drop 24).all (fun c => isCode c || c.before args0 about1) = true := by decide +kernel
theorem w_tables : (allAtoms (Jvm.Cond.code x code maxLocals ret :: tables_1)).before args0 about1 = true := by
  rw [allAtoms_all]
  show words1.all (fun c => c.before args0 about1) = true
  refine all_split ?_ w_codes
  rw [← List.take_append_drop 24 words1, List.all_append, w_t1, ← List.take_append_drop 24 (words1.drop 24), List.all_append, w_t2, ← List.take_append_drop 24 ((words1.drop 24).drop 24), List.all_append, w_t3, ← List.take_append_drop 24 (((words1.drop 24).drop 24).drop 24), List.all_append, w_t4, ← List.take_append_drop 24 ((((words1.drop 24).drop 24).drop 24).drop 24), List.all_append, w_t5, w_t6]
  rfl
set_option maxRecDepth 65536 in
theorem w_rest : rest_1_c.before args0 about1 = true := by decide +kernel
set_option maxRecDepth 65536 in
theorem w_case : (Jvm.Cond.and given_1 narrow_1).before args0 about1 = true := by decide +kernel
set_option maxRecDepth 65536 in
theorem w_consts : constsHeld consts_1 about1 := Jvm.Lit.constsHeldB_iff.mp (by decide +kernel)
theorem w_applies : (headSpec (Jvm.Cond.code x code maxLocals ret :: tables_1) room_1).applies x e0.platform about1 = true :=
  (Spec.applies_iff w_frames).mpr ⟨w_running, w_runnable, w_alone, w_named, w_hears, w_ripe, w_room, w_tables⟩
theorem atStart : AtStart classFile x code maxLocals ret World_1 tables_1 room_1 Calls_1 rest_1 Pre_1 launch0 p0 e0 about1 theMethod args0 below0 :=
  ⟨lists_1, trivial, launch0.admits_env _ _ _, launch0.least_env, fairChoices_fair.cas, fairChoices_fair.clock, w_frames, w_args, w_heap, w_applies, ⟨w_consts, trivial⟩, w_rest, w_case⟩
end start1
theorem witness_1 : WitnessClaimed_1 := ⟨start1.p0, start1.e0, start1.about1, start1.theMethod, start1.args0, start1.below0, start1.atStart⟩
end Jvm.Pilot.@@N@@
