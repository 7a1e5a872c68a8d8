import JvmDerived
import JvmDerived.Pilot.@@N@@Statement
import JvmDerived.Pilot.@@N@@Code
set_option linter.unusedVariables false
set_option linter.unusedSimpArgs false
@@BLOCK:NumsL.lean.txt@@
namespace Jvm.RoadKit
open Sem ClassFile Op Lib Jvm.Stand Jvm.Free Jvm.LawKit
/-- from U the run comes to an end of the invocation at which P holds -/
def Wp (p : Program) (e : Env) (below : List Frame) (P : State → Outcome → Prop) (U : State) : Prop :=
  ∃ s₂ o, Steps p.tables e below U s₂ ∧ s₂.status = .running ∧ Ended s₂ below o ∧ P s₂ o
theorem Wp.of {p : Program} {e : Env} {below : List Frame} {P : State → Outcome → Prop} {U U' : State} (f : ∀ t, Steps p.tables e below U' t → Steps p.tables e below U t) (k : Wp p e below P U') : Wp p e below P U := by
  obtain ⟨s2, o, a, b⟩ := k; exact ⟨s2, o, f _ a, b⟩
theorem Wp.tr {p : Program} {e : Env} {below : List Frame} {P : State → Outcome → Prop} {U U' : State} (f : Steps p.tables e below U U') (k : Wp p e below P U') : Wp p e below P U := by
  obtain ⟨s2, o, a, b⟩ := k; exact ⟨s2, o, f.trans a, b⟩
theorem Wp.cast {p : Program} {e : Env} {below : List Frame} {P : State → Outcome → Prop} {T : State} {g g' : JFrame} (q : g = g') (k : Wp p e below P (T.setTop g')) : Wp p e below P (T.setTop g) := q ▸ k
/-- where the walk stands: the library's Stand, what stays the same throughout a body, the heap, that only new places were written, that the start's cells are as they were -/
def Sd (Z : State) (n0 kk : Nat) (code : ByteArray) (ml : Nat) (own nm : String) (ret : Option FieldType) (h : Heap) (p : Program) (l : Launch) (e : Env) (R : Room) (s : State) (m : MethodId) (args : Array Value) (below : List Frame) (meth : Method) (c : Code) (T : State) (locs : List Loc) (cells slots : Nat) : Prop :=
  Stand p l e R s m args below meth c T locs cells slots ∧ (p.tables.exec = Jvm.exec ∧ c.code = code ∧ c.maxLocals = ml ∧ s.vm.findClass own = some m.cls ∧ Z.Warmed39 s.vm ∧ meth.sig.returnType = ret ∧ meth.name = nm ∧ meth.locks = false) ∧ T.heap = h ∧ Fr n0 locs ∧ Old Z n0 h ∧ kk ≤ h.size
/-- an instruction of n bytes and the pc behind it -/
def Dc (code : ByteArray) (pc : Nat) (i : Instr) (n pc' : Nat) : Prop := decode code pc = .ok (i, n) ∧ pc + n = pc'
/-- a branch of three bytes, its target and the pc behind it -/
def Bc (code : ByteArray) (pc : Nat) (f : Int → Instr) (t pc' : Nat) : Prop := ∃ o, decode code pc = .ok (f o, 3) ∧ 0 ≤ (pc : Int) + o ∧ ((pc : Int) + o).toNat = t ∧ pc + 3 = pc'

section Sd
variable {Z : State} {n0 kk : Nat} {code : ByteArray} {ml : Nat} {own nm : String} {ret : Option FieldType} {h : Heap} {p : Program} {l : Launch} {e : Env} {R : Room} {s : State} {m : MethodId} {args : Array Value} {below : List Frame} {meth : Method} {c : Code} {T : State} {locs : List Loc} {cells slots : Nat} {P : State → Outcome → Prop} {a0 : Array Value}
theorem Sd.st (X : Sd Z n0 kk code ml own nm ret h p l e R s m args below meth c T locs cells slots) : Stand p l e R s m args below meth c T locs cells slots := X.1
theorem Sd.hx (X : Sd Z n0 kk code ml own nm ret h p l e R s m args below meth c T locs cells slots) : p.tables.exec = Jvm.exec := X.2.1.1
theorem Sd.hb (X : Sd Z n0 kk code ml own nm ret h p l e R s m args below meth c T locs cells slots) {pc : Nat} {r : Except DecodeError (Instr × Nat)} (q : decode code pc = r) : decode c.code pc = r := X.2.1.2.1 ▸ q
theorem Sd.hml (X : Sd Z n0 kk code ml own nm ret h p l e R s m args below meth c T locs cells slots) : c.maxLocals = ml := X.2.1.2.2.1
theorem Sd.hown (X : Sd Z n0 kk code ml own nm ret h p l e R s m args below meth c T locs cells slots) : s.vm.findClass own = some m.cls := X.2.1.2.2.2.1
theorem Sd.hZ (X : Sd Z n0 kk code ml own nm ret h p l e R s m args below meth c T locs cells slots) : Z.Warmed39 s.vm := X.2.1.2.2.2.2.1
theorem Sd.hret (X : Sd Z n0 kk code ml own nm ret h p l e R s m args below meth c T locs cells slots) : meth.sig.returnType = ret := X.2.1.2.2.2.2.2.1
theorem Sd.hnm (X : Sd Z n0 kk code ml own nm ret h p l e R s m args below meth c T locs cells slots) : meth.name = nm := X.2.1.2.2.2.2.2.2.1
theorem Sd.hlk (X : Sd Z n0 kk code ml own nm ret h p l e R s m args below meth c T locs cells slots) : meth.locks = false := X.2.1.2.2.2.2.2.2.2
theorem Sd.eh (X : Sd Z n0 kk code ml own nm ret h p l e R s m args below meth c T locs cells slots) : T.heap = h := X.2.2.1
theorem Sd.fr (X : Sd Z n0 kk code ml own nm ret h p l e R s m args below meth c T locs cells slots) : Fr n0 locs := X.2.2.2.1
theorem Sd.old (X : Sd Z n0 kk code ml own nm ret h p l e R s m args below meth c T locs cells slots) : Old Z n0 h := X.2.2.2.2.1
theorem Sd.hkk (X : Sd Z n0 kk code ml own nm ret h p l e R s m args below meth c T locs cells slots) : kk ≤ h.size := X.2.2.2.2.2
theorem Sd.mk' {h' : Heap} {T' : State} {locs' : List Loc} {c' s' : Nat} (X : Sd Z n0 kk code ml own nm ret h p l e R s m args below meth c T locs cells slots) (Y : Stand p l e R s m args below meth c T' locs' c' s') (q1 : T'.heap = h') (q2 : Fr n0 locs') (q3 : Old Z n0 h') (q4 : h.size ≤ h'.size) : Sd Z n0 kk code ml own nm ret h' p l e R s m args below meth c T' locs' c' s' := ⟨Y, X.2.1, q1, q2, q3, Nat.le_trans X.hkk q4⟩
end Sd
section Steps
variable {Z : State} {n0 kk : Nat} {code : ByteArray} {ml : Nat} {own nm : String} {ret : Option FieldType} {h : Heap} {p : Program} {l : Launch} {e : Env} {R : Room} {s : State} {m : MethodId} {args : Array Value} {below : List Frame} {meth : Method} {c : Code} {T : State} {locs : List Loc} {cells slots : Nat} {P : State → Outcome → Prop} {a0 : Array Value} {pc pc' : Nat} {L : Array Slot} {S : List Value}
theorem w_iloadN (X : Sd Z n0 kk code ml own nm ret h p l e R s m args below meth c T locs cells slots) {k : Fin 4} {v : Int32} (hd : Dc code pc (.iload_n k) 1 pc') (hl : L[k.val]? = some (.val (.int v))) (K : Wp p e below P (T.setTop (mkF m pc' L (.int v :: S)))) : Wp p e below P (T.setTop (mkF m pc L S)) := by
  obtain ⟨hd, rfl⟩ := hd
  exact Wp.of (fun _ k => XS.iloadN X.st.here X.hx rfl (X.hb hd) hl k) K
theorem w_iload (X : Sd Z n0 kk code ml own nm ret h p l e R s m args below meth c T locs cells slots) {k : Nat} {v : Int32} (hd : Dc code pc (.iload k) 2 pc') (hl : L[k]? = some (.val (.int v))) (K : Wp p e below P (T.setTop (mkF m pc' L (.int v :: S)))) : Wp p e below P (T.setTop (mkF m pc L S)) := by
  obtain ⟨hd, rfl⟩ := hd
  exact Wp.of (fun _ k => XS.iload X.st.here X.hx rfl (X.hb hd) hl k) K
theorem w_lloadN (X : Sd Z n0 kk code ml own nm ret h p l e R s m args below meth c T locs cells slots) {k : Fin 4} {v : Int64} (hd : Dc code pc (.lload_n k) 1 pc') (hl : L[k.val]? = some (.val (.long v))) (K : Wp p e below P (T.setTop (mkF m pc' L (.long v :: S)))) : Wp p e below P (T.setTop (mkF m pc L S)) := by
  obtain ⟨hd, rfl⟩ := hd
  exact Wp.of (fun _ k => XS.lloadN X.st.here X.hx rfl (X.hb hd) hl k) K
theorem w_lload (X : Sd Z n0 kk code ml own nm ret h p l e R s m args below meth c T locs cells slots) {k : Nat} {v : Int64} (hd : Dc code pc (.lload k) 2 pc') (hl : L[k]? = some (.val (.long v))) (K : Wp p e below P (T.setTop (mkF m pc' L (.long v :: S)))) : Wp p e below P (T.setTop (mkF m pc L S)) := by
  obtain ⟨hd, rfl⟩ := hd
  exact Wp.of (fun _ k => XS.lload X.st.here X.hx rfl (X.hb hd) hl k) K
theorem w_aloadN (X : Sd Z n0 kk code ml own nm ret h p l e R s m args below meth c T locs cells slots) {k : Fin 4} {v : Value} (hd : Dc code pc (.aload_n k) 1 pc') (hl : L[k.val]? = some (.val v)) (hv : v.isRef = true) (K : Wp p e below P (T.setTop (mkF m pc' L (v :: S)))) : Wp p e below P (T.setTop (mkF m pc L S)) := by
  obtain ⟨hd, rfl⟩ := hd
  exact Wp.of (fun _ k => XS.aloadN X.st.here X.hx rfl (X.hb hd) hl hv k) K
theorem w_aload (X : Sd Z n0 kk code ml own nm ret h p l e R s m args below meth c T locs cells slots) {k : Nat} {v : Value} (hd : Dc code pc (.aload k) 2 pc') (hl : L[k]? = some (.val v)) (hv : v.isRef = true) (K : Wp p e below P (T.setTop (mkF m pc' L (v :: S)))) : Wp p e below P (T.setTop (mkF m pc L S)) := by
  obtain ⟨hd, rfl⟩ := hd
  exact Wp.of (fun _ k => XS.aload X.st.here X.hx rfl (X.hb hd) hl hv k) K
theorem w_istoreN (X : Sd Z n0 kk code ml own nm ret h p l e R s m args below meth c T locs cells slots) {k : Fin 4} {v : Int32} (L' : Array Slot) (hd : Dc code pc (.istore_n k) 1 pc') (hl : storeLocals L k.val (.int v) = some L') (K : Wp p e below P (T.setTop (mkF m pc' L' S))) : Wp p e below P (T.setTop (mkF m pc L (.int v :: S))) := by
  obtain ⟨hd, rfl⟩ := hd
  exact Wp.of (fun _ k => XS.istoreN X.st.here X.hx rfl (X.hb hd) rfl hl k) K
theorem w_istore (X : Sd Z n0 kk code ml own nm ret h p l e R s m args below meth c T locs cells slots) {k : Nat} {v : Int32} (L' : Array Slot) (hd : Dc code pc (.istore k) 2 pc') (hl : storeLocals L k (.int v) = some L') (K : Wp p e below P (T.setTop (mkF m pc' L' S))) : Wp p e below P (T.setTop (mkF m pc L (.int v :: S))) := by
  obtain ⟨hd, rfl⟩ := hd
  exact Wp.of (fun _ k => XS.istore X.st.here X.hx rfl (X.hb hd) rfl hl k) K
theorem w_lstoreN (X : Sd Z n0 kk code ml own nm ret h p l e R s m args below meth c T locs cells slots) {k : Fin 4} {v : Int64} (L' : Array Slot) (hd : Dc code pc (.lstore_n k) 1 pc') (hl : storeLocals L k.val (.long v) = some L') (K : Wp p e below P (T.setTop (mkF m pc' L' S))) : Wp p e below P (T.setTop (mkF m pc L (.long v :: S))) := by
  obtain ⟨hd, rfl⟩ := hd
  exact Wp.of (fun _ k => XS.lstoreN X.st.here X.hx rfl (X.hb hd) rfl hl k) K
theorem w_lstore (X : Sd Z n0 kk code ml own nm ret h p l e R s m args below meth c T locs cells slots) {k : Nat} {v : Int64} (L' : Array Slot) (hd : Dc code pc (.lstore k) 2 pc') (hl : storeLocals L k (.long v) = some L') (K : Wp p e below P (T.setTop (mkF m pc' L' S))) : Wp p e below P (T.setTop (mkF m pc L (.long v :: S))) := by
  obtain ⟨hd, rfl⟩ := hd
  exact Wp.of (fun _ k => XS.lstore X.st.here X.hx rfl (X.hb hd) rfl hl k) K
theorem w_astoreN (X : Sd Z n0 kk code ml own nm ret h p l e R s m args below meth c T locs cells slots) {k : Fin 4} {v : Value} (L' : Array Slot) (hd : Dc code pc (.astore_n k) 1 pc') (hv : v.isRef = true) (hl : storeLocals L k.val v = some L') (K : Wp p e below P (T.setTop (mkF m pc' L' S))) : Wp p e below P (T.setTop (mkF m pc L (v :: S))) := by
  obtain ⟨hd, rfl⟩ := hd
  exact Wp.of (fun _ k => XS.astoreN X.st.here X.hx rfl (X.hb hd) rfl hv hl k) K
theorem w_astore (X : Sd Z n0 kk code ml own nm ret h p l e R s m args below meth c T locs cells slots) {k : Nat} {v : Value} (L' : Array Slot) (hd : Dc code pc (.astore k) 2 pc') (hv : v.isRef = true) (hl : storeLocals L k v = some L') (K : Wp p e below P (T.setTop (mkF m pc' L' S))) : Wp p e below P (T.setTop (mkF m pc L (v :: S))) := by
  obtain ⟨hd, rfl⟩ := hd
  exact Wp.of (fun _ k => XS.astore X.st.here X.hx rfl (X.hb hd) rfl hv hl k) K
theorem w_iinc (X : Sd Z n0 kk code ml own nm ret h p l e R s m args below meth c T locs cells slots) {k : Nat} {q : Int} {v : Int32} (z : Int32) (L' : Array Slot) (hd : Dc code pc (.iinc k q) 3 pc') (hq : Int32.ofInt q = z) (hg : L[k]? = some (.val (.int v))) (hl : storeLocals L k (.int (v + z)) = some L') (K : Wp p e below P (T.setTop (mkF m pc' L' S))) : Wp p e below P (T.setTop (mkF m pc L S)) := by
  obtain ⟨hd, rfl⟩ := hd
  exact Wp.of (fun _ k => XS.iinc X.st.here X.hx rfl (X.hb hd) hg (hq ▸ hl) k) K
theorem w_iconst (X : Sd Z n0 kk code ml own nm ret h p l e R s m args below meth c T locs cells slots) {i : Int} (v : Int32) (hd : Dc code pc (.iconst i) 1 pc') (hv : Int32.ofInt i = v) (K : Wp p e below P (T.setTop (mkF m pc' L (.int v :: S)))) : Wp p e below P (T.setTop (mkF m pc L S)) := by
  obtain ⟨hd, rfl⟩ := hd
  exact Wp.of (fun _ k => XS.iconst X.st.here X.hx rfl (X.hb hd) (by rw [hv]; exact k)) K
theorem w_bipush (X : Sd Z n0 kk code ml own nm ret h p l e R s m args below meth c T locs cells slots) {i : Int} (v : Int32) (hd : Dc code pc (.bipush i) 2 pc') (hv : (Int8.ofInt i).toInt32 = v) (K : Wp p e below P (T.setTop (mkF m pc' L (.int v :: S)))) : Wp p e below P (T.setTop (mkF m pc L S)) := by
  obtain ⟨hd, rfl⟩ := hd
  exact Wp.of (fun _ k => XS.bipush X.st.here X.hx rfl (X.hb hd) (by rw [hv]; exact k)) K
theorem w_sipush (X : Sd Z n0 kk code ml own nm ret h p l e R s m args below meth c T locs cells slots) {i : Int} (v : Int32) (hd : Dc code pc (.sipush i) 3 pc') (hv : (Int16.ofInt i).toInt32 = v) (K : Wp p e below P (T.setTop (mkF m pc' L (.int v :: S)))) : Wp p e below P (T.setTop (mkF m pc L S)) := by
  obtain ⟨hd, rfl⟩ := hd
  exact Wp.of (fun _ k => XS.sipush X.st.here X.hx rfl (X.hb hd) (by rw [hv]; exact k)) K
theorem w_lconst (X : Sd Z n0 kk code ml own nm ret h p l e R s m args below meth c T locs cells slots) {i : Fin 2} (v : Int64) (hd : Dc code pc (.lconst i) 1 pc') (hv : Int64.ofNat i = v) (K : Wp p e below P (T.setTop (mkF m pc' L (.long v :: S)))) : Wp p e below P (T.setTop (mkF m pc L S)) := by
  obtain ⟨hd, rfl⟩ := hd
  exact Wp.of (fun _ k => XS.lconst X.st.here X.hx rfl (X.hb hd) (by rw [hv]; exact k)) K
theorem w_aconstNull (X : Sd Z n0 kk code ml own nm ret h p l e R s m args below meth c T locs cells slots)  (hd : Dc code pc (.aconst_null) 1 pc')  (K : Wp p e below P (T.setTop (mkF m pc' L (.null :: S)))) : Wp p e below P (T.setTop (mkF m pc L S)) := by
  obtain ⟨hd, rfl⟩ := hd
  exact Wp.of (fun _ k => XS.aconstNull X.st.here X.hx rfl (X.hb hd) k) K
theorem w_iadd (X : Sd Z n0 kk code ml own nm ret h p l e R s m args below meth c T locs cells slots) {x y : Int32} (hd : Dc code pc (.iadd) 1 pc')  (K : Wp p e below P (T.setTop (mkF m pc' L (.int (x + y) :: S)))) : Wp p e below P (T.setTop (mkF m pc L (.int y :: .int x :: S))) := by
  obtain ⟨hd, rfl⟩ := hd
  exact Wp.of (fun _ k => XS.iadd X.st.here X.hx rfl (X.hb hd) rfl k) K
theorem w_ladd (X : Sd Z n0 kk code ml own nm ret h p l e R s m args below meth c T locs cells slots) {x y : Int64} (hd : Dc code pc (.ladd) 1 pc')  (K : Wp p e below P (T.setTop (mkF m pc' L (.long (x + y) :: S)))) : Wp p e below P (T.setTop (mkF m pc L (.long y :: .long x :: S))) := by
  obtain ⟨hd, rfl⟩ := hd
  exact Wp.of (fun _ k => XS.ladd X.st.here X.hx rfl (X.hb hd) rfl k) K
theorem w_isub (X : Sd Z n0 kk code ml own nm ret h p l e R s m args below meth c T locs cells slots) {x y : Int32} (hd : Dc code pc (.isub) 1 pc')  (K : Wp p e below P (T.setTop (mkF m pc' L (.int (x - y) :: S)))) : Wp p e below P (T.setTop (mkF m pc L (.int y :: .int x :: S))) := by
  obtain ⟨hd, rfl⟩ := hd
  exact Wp.of (fun _ k => XS.isub X.st.here X.hx rfl (X.hb hd) rfl k) K
theorem w_lsub (X : Sd Z n0 kk code ml own nm ret h p l e R s m args below meth c T locs cells slots) {x y : Int64} (hd : Dc code pc (.lsub) 1 pc')  (K : Wp p e below P (T.setTop (mkF m pc' L (.long (x - y) :: S)))) : Wp p e below P (T.setTop (mkF m pc L (.long y :: .long x :: S))) := by
  obtain ⟨hd, rfl⟩ := hd
  exact Wp.of (fun _ k => XS.lsub X.st.here X.hx rfl (X.hb hd) rfl k) K
theorem w_imul (X : Sd Z n0 kk code ml own nm ret h p l e R s m args below meth c T locs cells slots) {x y : Int32} (hd : Dc code pc (.imul) 1 pc')  (K : Wp p e below P (T.setTop (mkF m pc' L (.int (x * y) :: S)))) : Wp p e below P (T.setTop (mkF m pc L (.int y :: .int x :: S))) := by
  obtain ⟨hd, rfl⟩ := hd
  exact Wp.of (fun _ k => XS.imul X.st.here X.hx rfl (X.hb hd) rfl k) K
theorem w_lmul (X : Sd Z n0 kk code ml own nm ret h p l e R s m args below meth c T locs cells slots) {x y : Int64} (hd : Dc code pc (.lmul) 1 pc')  (K : Wp p e below P (T.setTop (mkF m pc' L (.long (x * y) :: S)))) : Wp p e below P (T.setTop (mkF m pc L (.long y :: .long x :: S))) := by
  obtain ⟨hd, rfl⟩ := hd
  exact Wp.of (fun _ k => XS.lmul X.st.here X.hx rfl (X.hb hd) rfl k) K
theorem w_iand (X : Sd Z n0 kk code ml own nm ret h p l e R s m args below meth c T locs cells slots) {x y : Int32} (hd : Dc code pc (.iand) 1 pc')  (K : Wp p e below P (T.setTop (mkF m pc' L (.int (x &&& y) :: S)))) : Wp p e below P (T.setTop (mkF m pc L (.int y :: .int x :: S))) := by
  obtain ⟨hd, rfl⟩ := hd
  exact Wp.of (fun _ k => XS.iand X.st.here X.hx rfl (X.hb hd) rfl k) K
theorem w_land (X : Sd Z n0 kk code ml own nm ret h p l e R s m args below meth c T locs cells slots) {x y : Int64} (hd : Dc code pc (.land) 1 pc')  (K : Wp p e below P (T.setTop (mkF m pc' L (.long (x &&& y) :: S)))) : Wp p e below P (T.setTop (mkF m pc L (.long y :: .long x :: S))) := by
  obtain ⟨hd, rfl⟩ := hd
  exact Wp.of (fun _ k => XS.land X.st.here X.hx rfl (X.hb hd) rfl k) K
theorem w_ior (X : Sd Z n0 kk code ml own nm ret h p l e R s m args below meth c T locs cells slots) {x y : Int32} (hd : Dc code pc (.ior) 1 pc')  (K : Wp p e below P (T.setTop (mkF m pc' L (.int (x ||| y) :: S)))) : Wp p e below P (T.setTop (mkF m pc L (.int y :: .int x :: S))) := by
  obtain ⟨hd, rfl⟩ := hd
  exact Wp.of (fun _ k => XS.ior X.st.here X.hx rfl (X.hb hd) rfl k) K
theorem w_lor (X : Sd Z n0 kk code ml own nm ret h p l e R s m args below meth c T locs cells slots) {x y : Int64} (hd : Dc code pc (.lor) 1 pc')  (K : Wp p e below P (T.setTop (mkF m pc' L (.long (x ||| y) :: S)))) : Wp p e below P (T.setTop (mkF m pc L (.long y :: .long x :: S))) := by
  obtain ⟨hd, rfl⟩ := hd
  exact Wp.of (fun _ k => XS.lor X.st.here X.hx rfl (X.hb hd) rfl k) K
theorem w_ixor (X : Sd Z n0 kk code ml own nm ret h p l e R s m args below meth c T locs cells slots) {x y : Int32} (hd : Dc code pc (.ixor) 1 pc')  (K : Wp p e below P (T.setTop (mkF m pc' L (.int (x ^^^ y) :: S)))) : Wp p e below P (T.setTop (mkF m pc L (.int y :: .int x :: S))) := by
  obtain ⟨hd, rfl⟩ := hd
  exact Wp.of (fun _ k => XS.ixor X.st.here X.hx rfl (X.hb hd) rfl k) K
theorem w_lxor (X : Sd Z n0 kk code ml own nm ret h p l e R s m args below meth c T locs cells slots) {x y : Int64} (hd : Dc code pc (.lxor) 1 pc')  (K : Wp p e below P (T.setTop (mkF m pc' L (.long (x ^^^ y) :: S)))) : Wp p e below P (T.setTop (mkF m pc L (.long y :: .long x :: S))) := by
  obtain ⟨hd, rfl⟩ := hd
  exact Wp.of (fun _ k => XS.lxor X.st.here X.hx rfl (X.hb hd) rfl k) K
theorem w_ineg (X : Sd Z n0 kk code ml own nm ret h p l e R s m args below meth c T locs cells slots) {x : Int32} (hd : Dc code pc (.ineg) 1 pc')  (K : Wp p e below P (T.setTop (mkF m pc' L (.int (-x) :: S)))) : Wp p e below P (T.setTop (mkF m pc L (.int x :: S))) := by
  obtain ⟨hd, rfl⟩ := hd
  exact Wp.of (fun _ k => XS.ineg X.st.here X.hx rfl (X.hb hd) rfl k) K
theorem w_lneg (X : Sd Z n0 kk code ml own nm ret h p l e R s m args below meth c T locs cells slots) {x : Int64} (hd : Dc code pc (.lneg) 1 pc')  (K : Wp p e below P (T.setTop (mkF m pc' L (.long (-x) :: S)))) : Wp p e below P (T.setTop (mkF m pc L (.long x :: S))) := by
  obtain ⟨hd, rfl⟩ := hd
  exact Wp.of (fun _ k => XS.lneg X.st.here X.hx rfl (X.hb hd) rfl k) K
theorem w_idiv (X : Sd Z n0 kk code ml own nm ret h p l e R s m args below meth c T locs cells slots) {x y : Int32} (hd : Dc code pc (.idiv) 1 pc') (hy : ¬ y = 0) (K : Wp p e below P (T.setTop (mkF m pc' L (.int (x / y) :: S)))) : Wp p e below P (T.setTop (mkF m pc L (.int y :: .int x :: S))) := by
  obtain ⟨hd, rfl⟩ := hd
  exact Wp.of (fun _ k => XS.idiv X.st.here X.hx rfl (X.hb hd) rfl hy k) K
theorem w_ldiv (X : Sd Z n0 kk code ml own nm ret h p l e R s m args below meth c T locs cells slots) {x y : Int64} (hd : Dc code pc (.ldiv) 1 pc') (hy : ¬ y = 0) (K : Wp p e below P (T.setTop (mkF m pc' L (.long (x / y) :: S)))) : Wp p e below P (T.setTop (mkF m pc L (.long y :: .long x :: S))) := by
  obtain ⟨hd, rfl⟩ := hd
  exact Wp.of (fun _ k => XS.ldiv X.st.here X.hx rfl (X.hb hd) rfl hy k) K
theorem own_irem (x y : Int32) : x - (x / y) * y = x % y := by
  apply Int32.toInt_inj.mp
  have h1 := Int32.le_toInt (x % y)
  have h2 := Int32.toInt_lt (x % y)
  rw [Int32.toInt_mod] at h1 h2 ⊢
  rw [Int32.toInt_sub, Int32.toInt_mul, Int32.toInt_div, Int.bmod_mul_bmod, Int.sub_bmod_bmod]
  have e : x.toInt - x.toInt.tdiv y.toInt * y.toInt = x.toInt.tmod y.toInt := by rw [Int.mul_comm]; exact (Int.tmod_def _ _).symm
  rw [e, Int.bmod_eq_of_le (by omega) (by omega)]
theorem w_irem (X : Sd Z n0 kk code ml own nm ret h p l e R s m args below meth c T locs cells slots) {x y : Int32} (hd : Dc code pc (.irem) 1 pc') (hy : ¬ y = 0) (K : Wp p e below P (T.setTop (mkF m pc' L (.int (x % y) :: S)))) : Wp p e below P (T.setTop (mkF m pc L (.int y :: .int x :: S))) := by
  obtain ⟨hd, rfl⟩ := hd
  exact Wp.of (fun _ k => XS.irem X.st.here X.hx rfl (X.hb hd) rfl hy (by rw [own_irem]; exact k)) K
theorem w_lrem (X : Sd Z n0 kk code ml own nm ret h p l e R s m args below meth c T locs cells slots) {x y : Int64} (hd : Dc code pc (.lrem) 1 pc') (hy : ¬ y = 0) (K : Wp p e below P (T.setTop (mkF m pc' L (.long (x % y) :: S)))) : Wp p e below P (T.setTop (mkF m pc L (.long y :: .long x :: S))) := by
  obtain ⟨hd, rfl⟩ := hd
  exact Wp.of (fun _ k => XS.lrem X.st.here X.hx rfl (X.hb hd) rfl hy (by rw [lrem_mod]; exact k)) K
theorem w_ishl (X : Sd Z n0 kk code ml own nm ret h p l e R s m args below meth c T locs cells slots) {x y : Int32} (hd : Dc code pc (.ishl) 1 pc')  (K : Wp p e below P (T.setTop (mkF m pc' L (.int (x <<< (y &&& 31)) :: S)))) : Wp p e below P (T.setTop (mkF m pc L (.int y :: .int x :: S))) := by
  obtain ⟨hd, rfl⟩ := hd
  exact Wp.of (fun _ k => XS.ishl X.st.here X.hx rfl (X.hb hd) rfl k) K
theorem w_ishr (X : Sd Z n0 kk code ml own nm ret h p l e R s m args below meth c T locs cells slots) {x y : Int32} (hd : Dc code pc (.ishr) 1 pc')  (K : Wp p e below P (T.setTop (mkF m pc' L (.int (x >>> (y &&& 31)) :: S)))) : Wp p e below P (T.setTop (mkF m pc L (.int y :: .int x :: S))) := by
  obtain ⟨hd, rfl⟩ := hd
  exact Wp.of (fun _ k => XS.ishr X.st.here X.hx rfl (X.hb hd) rfl k) K
theorem w_iushr (X : Sd Z n0 kk code ml own nm ret h p l e R s m args below meth c T locs cells slots) {x y : Int32} (hd : Dc code pc (.iushr) 1 pc')  (K : Wp p e below P (T.setTop (mkF m pc' L (.int ((x.toUInt32 >>> (y &&& 31).toUInt32).toInt32) :: S)))) : Wp p e below P (T.setTop (mkF m pc L (.int y :: .int x :: S))) := by
  obtain ⟨hd, rfl⟩ := hd
  exact Wp.of (fun _ k => XS.iushr X.st.here X.hx rfl (X.hb hd) rfl k) K
theorem w_lshl (X : Sd Z n0 kk code ml own nm ret h p l e R s m args below meth c T locs cells slots) {x : Int64} {y : Int32} (hd : Dc code pc (.lshl) 1 pc')  (K : Wp p e below P (T.setTop (mkF m pc' L (.long (x <<< (y &&& 0x3f).toInt64) :: S)))) : Wp p e below P (T.setTop (mkF m pc L (.int y :: .long x :: S))) := by
  obtain ⟨hd, rfl⟩ := hd
  exact Wp.of (fun _ k => XS.lshl X.st.here X.hx rfl (X.hb hd) rfl k) K
theorem w_lshr (X : Sd Z n0 kk code ml own nm ret h p l e R s m args below meth c T locs cells slots) {x : Int64} {y : Int32} (hd : Dc code pc (.lshr) 1 pc')  (K : Wp p e below P (T.setTop (mkF m pc' L (.long (x >>> (y &&& 0x3f).toInt64) :: S)))) : Wp p e below P (T.setTop (mkF m pc L (.int y :: .long x :: S))) := by
  obtain ⟨hd, rfl⟩ := hd
  exact Wp.of (fun _ k => XS.lshr X.st.here X.hx rfl (X.hb hd) rfl k) K
theorem w_lushr (X : Sd Z n0 kk code ml own nm ret h p l e R s m args below meth c T locs cells slots) {x : Int64} {y : Int32} (hd : Dc code pc (.lushr) 1 pc')  (K : Wp p e below P (T.setTop (mkF m pc' L (.long ((x.toUInt64 >>> (y &&& 0x3f).toInt64.toUInt64).toInt64) :: S)))) : Wp p e below P (T.setTop (mkF m pc L (.int y :: .long x :: S))) := by
  obtain ⟨hd, rfl⟩ := hd
  exact Wp.of (fun _ k => XS.lushr X.st.here X.hx rfl (X.hb hd) rfl k) K
theorem w_i2l (X : Sd Z n0 kk code ml own nm ret h p l e R s m args below meth c T locs cells slots) {x : Int32} (hd : Dc code pc (.i2l) 1 pc')  (K : Wp p e below P (T.setTop (mkF m pc' L (.long (x.toInt64) :: S)))) : Wp p e below P (T.setTop (mkF m pc L (.int x :: S))) := by
  obtain ⟨hd, rfl⟩ := hd
  exact Wp.of (fun _ k => XS.i2l X.st.here X.hx rfl (X.hb hd) rfl k) K
theorem w_i2b (X : Sd Z n0 kk code ml own nm ret h p l e R s m args below meth c T locs cells slots) {x : Int32} (hd : Dc code pc (.i2b) 1 pc')  (K : Wp p e below P (T.setTop (mkF m pc' L (.int (x.toInt8.toInt32) :: S)))) : Wp p e below P (T.setTop (mkF m pc L (.int x :: S))) := by
  obtain ⟨hd, rfl⟩ := hd
  exact Wp.of (fun _ k => XS.i2b X.st.here X.hx rfl (X.hb hd) rfl k) K
theorem w_i2s (X : Sd Z n0 kk code ml own nm ret h p l e R s m args below meth c T locs cells slots) {x : Int32} (hd : Dc code pc (.i2s) 1 pc')  (K : Wp p e below P (T.setTop (mkF m pc' L (.int (x.toInt16.toInt32) :: S)))) : Wp p e below P (T.setTop (mkF m pc L (.int x :: S))) := by
  obtain ⟨hd, rfl⟩ := hd
  exact Wp.of (fun _ k => XS.i2s X.st.here X.hx rfl (X.hb hd) rfl k) K
theorem w_i2c (X : Sd Z n0 kk code ml own nm ret h p l e R s m args below meth c T locs cells slots) {x : Int32} (hd : Dc code pc (.i2c) 1 pc')  (K : Wp p e below P (T.setTop (mkF m pc' L (.int (x.toUInt32.toUInt16.toUInt32.toInt32) :: S)))) : Wp p e below P (T.setTop (mkF m pc L (.int x :: S))) := by
  obtain ⟨hd, rfl⟩ := hd
  exact Wp.of (fun _ k => XS.i2c X.st.here X.hx rfl (X.hb hd) rfl k) K
theorem w_l2i (X : Sd Z n0 kk code ml own nm ret h p l e R s m args below meth c T locs cells slots) {x : Int64} (hd : Dc code pc (.l2i) 1 pc')  (K : Wp p e below P (T.setTop (mkF m pc' L (.int (x.toInt32) :: S)))) : Wp p e below P (T.setTop (mkF m pc L (.long x :: S))) := by
  obtain ⟨hd, rfl⟩ := hd
  exact Wp.of (fun _ k => XS.l2i X.st.here X.hx rfl (X.hb hd) rfl k) K
theorem w_lcmp (X : Sd Z n0 kk code ml own nm ret h p l e R s m args below meth c T locs cells slots) {x y : Int64} (hd : Dc code pc (.lcmp) 1 pc')  (K : Wp p e below P (T.setTop (mkF m pc' L (.int (lcmpW x y) :: S)))) : Wp p e below P (T.setTop (mkF m pc L (.long y :: .long x :: S))) := by
  obtain ⟨hd, rfl⟩ := hd
  exact Wp.of (fun _ k => XS.lcmp X.st.here X.hx rfl (X.hb hd) rfl k) K
theorem w_dup (X : Sd Z n0 kk code ml own nm ret h p l e R s m args below meth c T locs cells slots) {x : Value} (hd : Dc code pc (.dup) 1 pc') (hc : x.category = 1) (K : Wp p e below P (T.setTop (mkF m pc' L (x :: x :: S)))) : Wp p e below P (T.setTop (mkF m pc L (x :: S))) := by
  obtain ⟨hd, rfl⟩ := hd
  exact Wp.of (fun _ k => XS.dup X.st.here X.hx rfl (X.hb hd) rfl hc k) K
theorem w_dup2 (X : Sd Z n0 kk code ml own nm ret h p l e R s m args below meth c T locs cells slots) {x y : Value} (hd : Dc code pc (.dup2) 1 pc') (hc : x.category = 1) (hc' : y.category = 1) (K : Wp p e below P (T.setTop (mkF m pc' L (x :: y :: x :: y :: S)))) : Wp p e below P (T.setTop (mkF m pc L (x :: y :: S))) := by
  obtain ⟨hd, rfl⟩ := hd
  exact Wp.of (fun _ k => XT.dup2 X.st.here X.hx rfl (X.hb hd) rfl hc hc' k) K
theorem w_dup2L (X : Sd Z n0 kk code ml own nm ret h p l e R s m args below meth c T locs cells slots) {x : Int64} (hd : Dc code pc (.dup2) 1 pc')  (K : Wp p e below P (T.setTop (mkF m pc' L (.long x :: .long x :: S)))) : Wp p e below P (T.setTop (mkF m pc L (.long x :: S))) := by
  obtain ⟨hd, rfl⟩ := hd
  exact Wp.of (fun _ k => XT.dup2L X.st.here X.hx rfl (X.hb hd) rfl k) K
theorem w_dupX1 (X : Sd Z n0 kk code ml own nm ret h p l e R s m args below meth c T locs cells slots) {x y : Value} (hd : Dc code pc (.dup_x1) 1 pc') (hc : x.category = 1) (hc' : y.category = 1) (K : Wp p e below P (T.setTop (mkF m pc' L (x :: y :: x :: S)))) : Wp p e below P (T.setTop (mkF m pc L (x :: y :: S))) := by
  obtain ⟨hd, rfl⟩ := hd
  exact Wp.of (fun _ k => XS.dupX1 X.st.here X.hx rfl (X.hb hd) rfl hc hc' k) K
theorem w_pop (X : Sd Z n0 kk code ml own nm ret h p l e R s m args below meth c T locs cells slots) {x : Value} (hd : Dc code pc (.pop) 1 pc') (hc : x.category = 1) (K : Wp p e below P (T.setTop (mkF m pc' L S))) : Wp p e below P (T.setTop (mkF m pc L (x :: S))) := by
  obtain ⟨hd, rfl⟩ := hd
  exact Wp.of (fun _ k => XS.pop X.st.here X.hx rfl (X.hb hd) rfl hc k) K
theorem w_goto (X : Sd Z n0 kk code ml own nm ret h p l e R s m args below meth c T locs cells slots) {t : Nat} (hd : Bc code pc .goto t pc') (K : Wp p e below P (T.setTop (mkF m t L S))) : Wp p e below P (T.setTop (mkF m pc L S)) := by
  obtain ⟨o, hd, h1, h2, -⟩ := hd
  exact Wp.of (fun _ k => XS.goto X.st.here X.hx rfl (pc0 := pc) rfl (X.hb hd) h1 h2 k) K
theorem w_ifeq (X : Sd Z n0 kk code ml own nm ret h p l e R s m args below meth c T locs cells slots) {x : Int32} {t : Nat} (hd : Bc code pc (.ifCond .eq) t pc') (K1 : x = 0 → Wp p e below P (T.setTop (mkF m t L S))) (K2 : ¬ x = 0 → Wp p e below P (T.setTop (mkF m pc' L S))) : Wp p e below P (T.setTop (mkF m pc L (.int x :: S))) := by
  obtain ⟨o, hd, h1, h2, rfl⟩ := hd
  by_cases q : ifCond.holds .eq x = true
  · exact Wp.of (fun _ k => XS.ifYes X.st.here X.hx rfl (pc0 := pc) rfl (X.hb hd) rfl q h1 h2 k) (K1 (by simpa [ifCond.holds, Int32.not_lt] using q))
  · exact Wp.of (fun _ k => XS.ifNo X.st.here X.hx rfl (X.hb hd) rfl (by simpa using q) k) (K2 (by simpa [ifCond.holds, Int32.not_lt] using q))
theorem w_icmpeq (X : Sd Z n0 kk code ml own nm ret h p l e R s m args below meth c T locs cells slots) {x y : Int32} {t : Nat} (hd : Bc code pc (.if_icmp .eq) t pc') (K1 : x = y → Wp p e below P (T.setTop (mkF m t L S))) (K2 : ¬ x = y → Wp p e below P (T.setTop (mkF m pc' L S))) : Wp p e below P (T.setTop (mkF m pc L (.int y :: .int x :: S))) := by
  obtain ⟨o, hd, h1, h2, rfl⟩ := hd
  by_cases q : if_icmp.holds .eq x y = true
  · exact Wp.of (fun _ k => XS.icmpYes X.st.here X.hx rfl (pc0 := pc) rfl (X.hb hd) rfl q h1 h2 k) (K1 (by simpa [if_icmp.holds, Int32.not_lt] using q))
  · exact Wp.of (fun _ k => XS.icmpNo X.st.here X.hx rfl (X.hb hd) rfl (by simpa using q) k) (K2 (by simpa [if_icmp.holds, Int32.not_lt] using q))
theorem w_ifne (X : Sd Z n0 kk code ml own nm ret h p l e R s m args below meth c T locs cells slots) {x : Int32} {t : Nat} (hd : Bc code pc (.ifCond .ne) t pc') (K1 : ¬ x = 0 → Wp p e below P (T.setTop (mkF m t L S))) (K2 : x = 0 → Wp p e below P (T.setTop (mkF m pc' L S))) : Wp p e below P (T.setTop (mkF m pc L (.int x :: S))) := by
  obtain ⟨o, hd, h1, h2, rfl⟩ := hd
  by_cases q : ifCond.holds .ne x = true
  · exact Wp.of (fun _ k => XS.ifYes X.st.here X.hx rfl (pc0 := pc) rfl (X.hb hd) rfl q h1 h2 k) (K1 (by simpa [ifCond.holds, Int32.not_lt] using q))
  · exact Wp.of (fun _ k => XS.ifNo X.st.here X.hx rfl (X.hb hd) rfl (by simpa using q) k) (K2 (by simpa [ifCond.holds, Int32.not_lt] using q))
theorem w_icmpne (X : Sd Z n0 kk code ml own nm ret h p l e R s m args below meth c T locs cells slots) {x y : Int32} {t : Nat} (hd : Bc code pc (.if_icmp .ne) t pc') (K1 : ¬ x = y → Wp p e below P (T.setTop (mkF m t L S))) (K2 : x = y → Wp p e below P (T.setTop (mkF m pc' L S))) : Wp p e below P (T.setTop (mkF m pc L (.int y :: .int x :: S))) := by
  obtain ⟨o, hd, h1, h2, rfl⟩ := hd
  by_cases q : if_icmp.holds .ne x y = true
  · exact Wp.of (fun _ k => XS.icmpYes X.st.here X.hx rfl (pc0 := pc) rfl (X.hb hd) rfl q h1 h2 k) (K1 (by simpa [if_icmp.holds, Int32.not_lt] using q))
  · exact Wp.of (fun _ k => XS.icmpNo X.st.here X.hx rfl (X.hb hd) rfl (by simpa using q) k) (K2 (by simpa [if_icmp.holds, Int32.not_lt] using q))
theorem w_iflt (X : Sd Z n0 kk code ml own nm ret h p l e R s m args below meth c T locs cells slots) {x : Int32} {t : Nat} (hd : Bc code pc (.ifCond .lt) t pc') (K1 : x < 0 → Wp p e below P (T.setTop (mkF m t L S))) (K2 : ¬ x < 0 → Wp p e below P (T.setTop (mkF m pc' L S))) : Wp p e below P (T.setTop (mkF m pc L (.int x :: S))) := by
  obtain ⟨o, hd, h1, h2, rfl⟩ := hd
  by_cases q : ifCond.holds .lt x = true
  · exact Wp.of (fun _ k => XS.ifYes X.st.here X.hx rfl (pc0 := pc) rfl (X.hb hd) rfl q h1 h2 k) (K1 (by simpa [ifCond.holds, Int32.not_lt] using q))
  · exact Wp.of (fun _ k => XS.ifNo X.st.here X.hx rfl (X.hb hd) rfl (by simpa using q) k) (K2 (by simpa [ifCond.holds, Int32.not_lt] using q))
theorem w_icmplt (X : Sd Z n0 kk code ml own nm ret h p l e R s m args below meth c T locs cells slots) {x y : Int32} {t : Nat} (hd : Bc code pc (.if_icmp .lt) t pc') (K1 : x < y → Wp p e below P (T.setTop (mkF m t L S))) (K2 : ¬ x < y → Wp p e below P (T.setTop (mkF m pc' L S))) : Wp p e below P (T.setTop (mkF m pc L (.int y :: .int x :: S))) := by
  obtain ⟨o, hd, h1, h2, rfl⟩ := hd
  by_cases q : if_icmp.holds .lt x y = true
  · exact Wp.of (fun _ k => XS.icmpYes X.st.here X.hx rfl (pc0 := pc) rfl (X.hb hd) rfl q h1 h2 k) (K1 (by simpa [if_icmp.holds, Int32.not_lt] using q))
  · exact Wp.of (fun _ k => XS.icmpNo X.st.here X.hx rfl (X.hb hd) rfl (by simpa using q) k) (K2 (by simpa [if_icmp.holds, Int32.not_lt] using q))
theorem w_ifge (X : Sd Z n0 kk code ml own nm ret h p l e R s m args below meth c T locs cells slots) {x : Int32} {t : Nat} (hd : Bc code pc (.ifCond .ge) t pc') (K1 : ¬ x < 0 → Wp p e below P (T.setTop (mkF m t L S))) (K2 : x < 0 → Wp p e below P (T.setTop (mkF m pc' L S))) : Wp p e below P (T.setTop (mkF m pc L (.int x :: S))) := by
  obtain ⟨o, hd, h1, h2, rfl⟩ := hd
  by_cases q : ifCond.holds .ge x = true
  · exact Wp.of (fun _ k => XS.ifYes X.st.here X.hx rfl (pc0 := pc) rfl (X.hb hd) rfl q h1 h2 k) (K1 (by simpa [ifCond.holds, Int32.not_lt] using q))
  · exact Wp.of (fun _ k => XS.ifNo X.st.here X.hx rfl (X.hb hd) rfl (by simpa using q) k) (K2 (by simpa [ifCond.holds, Int32.not_lt] using q))
theorem w_icmpge (X : Sd Z n0 kk code ml own nm ret h p l e R s m args below meth c T locs cells slots) {x y : Int32} {t : Nat} (hd : Bc code pc (.if_icmp .ge) t pc') (K1 : ¬ x < y → Wp p e below P (T.setTop (mkF m t L S))) (K2 : x < y → Wp p e below P (T.setTop (mkF m pc' L S))) : Wp p e below P (T.setTop (mkF m pc L (.int y :: .int x :: S))) := by
  obtain ⟨o, hd, h1, h2, rfl⟩ := hd
  by_cases q : if_icmp.holds .ge x y = true
  · exact Wp.of (fun _ k => XS.icmpYes X.st.here X.hx rfl (pc0 := pc) rfl (X.hb hd) rfl q h1 h2 k) (K1 (by simpa [if_icmp.holds, Int32.not_lt] using q))
  · exact Wp.of (fun _ k => XS.icmpNo X.st.here X.hx rfl (X.hb hd) rfl (by simpa using q) k) (K2 (by simpa [if_icmp.holds, Int32.not_lt] using q))
theorem w_ifgt (X : Sd Z n0 kk code ml own nm ret h p l e R s m args below meth c T locs cells slots) {x : Int32} {t : Nat} (hd : Bc code pc (.ifCond .gt) t pc') (K1 : 0 < x → Wp p e below P (T.setTop (mkF m t L S))) (K2 : ¬ 0 < x → Wp p e below P (T.setTop (mkF m pc' L S))) : Wp p e below P (T.setTop (mkF m pc L (.int x :: S))) := by
  obtain ⟨o, hd, h1, h2, rfl⟩ := hd
  by_cases q : ifCond.holds .gt x = true
  · exact Wp.of (fun _ k => XS.ifYes X.st.here X.hx rfl (pc0 := pc) rfl (X.hb hd) rfl q h1 h2 k) (K1 (by simpa [ifCond.holds, Int32.not_lt] using q))
  · exact Wp.of (fun _ k => XS.ifNo X.st.here X.hx rfl (X.hb hd) rfl (by simpa using q) k) (K2 (by simpa [ifCond.holds, Int32.not_lt] using q))
theorem w_icmpgt (X : Sd Z n0 kk code ml own nm ret h p l e R s m args below meth c T locs cells slots) {x y : Int32} {t : Nat} (hd : Bc code pc (.if_icmp .gt) t pc') (K1 : y < x → Wp p e below P (T.setTop (mkF m t L S))) (K2 : ¬ y < x → Wp p e below P (T.setTop (mkF m pc' L S))) : Wp p e below P (T.setTop (mkF m pc L (.int y :: .int x :: S))) := by
  obtain ⟨o, hd, h1, h2, rfl⟩ := hd
  by_cases q : if_icmp.holds .gt x y = true
  · exact Wp.of (fun _ k => XS.icmpYes X.st.here X.hx rfl (pc0 := pc) rfl (X.hb hd) rfl q h1 h2 k) (K1 (by simpa [if_icmp.holds, Int32.not_lt] using q))
  · exact Wp.of (fun _ k => XS.icmpNo X.st.here X.hx rfl (X.hb hd) rfl (by simpa using q) k) (K2 (by simpa [if_icmp.holds, Int32.not_lt] using q))
theorem w_ifle (X : Sd Z n0 kk code ml own nm ret h p l e R s m args below meth c T locs cells slots) {x : Int32} {t : Nat} (hd : Bc code pc (.ifCond .le) t pc') (K1 : ¬ 0 < x → Wp p e below P (T.setTop (mkF m t L S))) (K2 : 0 < x → Wp p e below P (T.setTop (mkF m pc' L S))) : Wp p e below P (T.setTop (mkF m pc L (.int x :: S))) := by
  obtain ⟨o, hd, h1, h2, rfl⟩ := hd
  by_cases q : ifCond.holds .le x = true
  · exact Wp.of (fun _ k => XS.ifYes X.st.here X.hx rfl (pc0 := pc) rfl (X.hb hd) rfl q h1 h2 k) (K1 (by simpa [ifCond.holds, Int32.not_lt] using q))
  · exact Wp.of (fun _ k => XS.ifNo X.st.here X.hx rfl (X.hb hd) rfl (by simpa using q) k) (K2 (by simpa [ifCond.holds, Int32.not_lt] using q))
theorem w_icmple (X : Sd Z n0 kk code ml own nm ret h p l e R s m args below meth c T locs cells slots) {x y : Int32} {t : Nat} (hd : Bc code pc (.if_icmp .le) t pc') (K1 : ¬ y < x → Wp p e below P (T.setTop (mkF m t L S))) (K2 : y < x → Wp p e below P (T.setTop (mkF m pc' L S))) : Wp p e below P (T.setTop (mkF m pc L (.int y :: .int x :: S))) := by
  obtain ⟨o, hd, h1, h2, rfl⟩ := hd
  by_cases q : if_icmp.holds .le x y = true
  · exact Wp.of (fun _ k => XS.icmpYes X.st.here X.hx rfl (pc0 := pc) rfl (X.hb hd) rfl q h1 h2 k) (K1 (by simpa [if_icmp.holds, Int32.not_lt] using q))
  · exact Wp.of (fun _ k => XS.icmpNo X.st.here X.hx rfl (X.hb hd) rfl (by simpa using q) k) (K2 (by simpa [if_icmp.holds, Int32.not_lt] using q))
theorem own_lc (x y : Int64) : (lcmpW x y < 0 ↔ x < y) ∧ (0 < lcmpW x y ↔ y < x) ∧ (lcmpW x y = 0 ↔ x = y) := by rw [lcW]; exact ⟨lc_lt x y, lc_gt x y, lc_eq x y⟩
theorem w_leq (X : Sd Z n0 kk code ml own nm ret h p l e R s m args below meth c T locs cells slots) {x y : Int64} {t pc1 : Nat} (hd : Dc code pc .lcmp 1 pc1) (hd2 : Bc code pc1 (.ifCond .eq) t pc') (K1 : x = y → Wp p e below P (T.setTop (mkF m t L S))) (K2 : ¬ x = y → Wp p e below P (T.setTop (mkF m pc' L S))) : Wp p e below P (T.setTop (mkF m pc L (.long y :: .long x :: S))) :=
  w_lcmp X hd (w_ifeq X hd2 (fun q => K1 ((own_lc x y).2.2.mp q)) (fun q => K2 (fun r => q ((own_lc x y).2.2.mpr r))))
theorem w_lne (X : Sd Z n0 kk code ml own nm ret h p l e R s m args below meth c T locs cells slots) {x y : Int64} {t pc1 : Nat} (hd : Dc code pc .lcmp 1 pc1) (hd2 : Bc code pc1 (.ifCond .ne) t pc') (K1 : ¬ x = y → Wp p e below P (T.setTop (mkF m t L S))) (K2 : x = y → Wp p e below P (T.setTop (mkF m pc' L S))) : Wp p e below P (T.setTop (mkF m pc L (.long y :: .long x :: S))) :=
  w_lcmp X hd (w_ifne X hd2 (fun q => K1 (fun r => q ((own_lc x y).2.2.mpr r))) (fun q => K2 ((own_lc x y).2.2.mp q)))
theorem w_llt (X : Sd Z n0 kk code ml own nm ret h p l e R s m args below meth c T locs cells slots) {x y : Int64} {t pc1 : Nat} (hd : Dc code pc .lcmp 1 pc1) (hd2 : Bc code pc1 (.ifCond .lt) t pc') (K1 : x < y → Wp p e below P (T.setTop (mkF m t L S))) (K2 : ¬ x < y → Wp p e below P (T.setTop (mkF m pc' L S))) : Wp p e below P (T.setTop (mkF m pc L (.long y :: .long x :: S))) :=
  w_lcmp X hd (w_iflt X hd2 (fun q => K1 ((own_lc x y).1.mp q)) (fun q => K2 (fun r => q ((own_lc x y).1.mpr r))))
theorem w_lge (X : Sd Z n0 kk code ml own nm ret h p l e R s m args below meth c T locs cells slots) {x y : Int64} {t pc1 : Nat} (hd : Dc code pc .lcmp 1 pc1) (hd2 : Bc code pc1 (.ifCond .ge) t pc') (K1 : ¬ x < y → Wp p e below P (T.setTop (mkF m t L S))) (K2 : x < y → Wp p e below P (T.setTop (mkF m pc' L S))) : Wp p e below P (T.setTop (mkF m pc L (.long y :: .long x :: S))) :=
  w_lcmp X hd (w_ifge X hd2 (fun q => K1 (fun r => q ((own_lc x y).1.mpr r))) (fun q => K2 ((own_lc x y).1.mp q)))
theorem w_lgt (X : Sd Z n0 kk code ml own nm ret h p l e R s m args below meth c T locs cells slots) {x y : Int64} {t pc1 : Nat} (hd : Dc code pc .lcmp 1 pc1) (hd2 : Bc code pc1 (.ifCond .gt) t pc') (K1 : y < x → Wp p e below P (T.setTop (mkF m t L S))) (K2 : ¬ y < x → Wp p e below P (T.setTop (mkF m pc' L S))) : Wp p e below P (T.setTop (mkF m pc L (.long y :: .long x :: S))) :=
  w_lcmp X hd (w_ifgt X hd2 (fun q => K1 ((own_lc x y).2.1.mp q)) (fun q => K2 (fun r => q ((own_lc x y).2.1.mpr r))))
theorem w_lle (X : Sd Z n0 kk code ml own nm ret h p l e R s m args below meth c T locs cells slots) {x y : Int64} {t pc1 : Nat} (hd : Dc code pc .lcmp 1 pc1) (hd2 : Bc code pc1 (.ifCond .le) t pc') (K1 : ¬ y < x → Wp p e below P (T.setTop (mkF m t L S))) (K2 : y < x → Wp p e below P (T.setTop (mkF m pc' L S))) : Wp p e below P (T.setTop (mkF m pc L (.long y :: .long x :: S))) :=
  w_lcmp X hd (w_ifle X hd2 (fun q => K1 (fun r => q ((own_lc x y).2.1.mpr r))) (fun q => K2 ((own_lc x y).2.1.mp q)))
theorem w_ifnullT (X : Sd Z n0 kk code ml own nm ret h p l e R s m args below meth c T locs cells slots) {t : Nat} (hd : Bc code pc .ifnull t pc') (K : Wp p e below P (T.setTop (mkF m t L S))) : Wp p e below P (T.setTop (mkF m pc L (.null :: S))) := by
  obtain ⟨o, hd, h1, h2, -⟩ := hd
  exact Wp.of (fun _ k => XS.ifnullYes X.st.here X.hx rfl (pc0 := pc) rfl (X.hb hd) rfl h1 h2 k) K
theorem w_ifnullF (X : Sd Z n0 kk code ml own nm ret h p l e R s m args below meth c T locs cells slots) {t : Nat} {a : Addr} (hd : Bc code pc .ifnull t pc') (K : Wp p e below P (T.setTop (mkF m pc' L S))) : Wp p e below P (T.setTop (mkF m pc L (.ref a :: S))) := by
  obtain ⟨o, hd, h1, h2, rfl⟩ := hd
  exact Wp.of (fun _ k => XS.ifnullNo X.st.here X.hx rfl (X.hb hd) rfl k) K
theorem w_ifnonnullT (X : Sd Z n0 kk code ml own nm ret h p l e R s m args below meth c T locs cells slots) {t : Nat} {a : Addr} (hd : Bc code pc .ifnonnull t pc') (K : Wp p e below P (T.setTop (mkF m t L S))) : Wp p e below P (T.setTop (mkF m pc L (.ref a :: S))) := by
  obtain ⟨o, hd, h1, h2, -⟩ := hd
  exact Wp.of (fun _ k => XS.ifnonnullYes X.st.here X.hx rfl (pc0 := pc) rfl (X.hb hd) rfl h1 h2 k) K
theorem w_ifnonnullF (X : Sd Z n0 kk code ml own nm ret h p l e R s m args below meth c T locs cells slots) {t : Nat} (hd : Bc code pc .ifnonnull t pc') (K : Wp p e below P (T.setTop (mkF m pc' L S))) : Wp p e below P (T.setTop (mkF m pc L (.null :: S))) := by
  obtain ⟨o, hd, h1, h2, rfl⟩ := hd
  exact Wp.of (fun _ k => XS.ifnonnullNo X.st.here X.hx rfl (X.hb hd) rfl k) K
theorem w_acmpeq (X : Sd Z n0 kk code ml own nm ret h p l e R s m args below meth c T locs cells slots) {x y : Value} {t : Nat} (hx' : x.isRef = true) (hy' : y.isRef = true) (hd : Bc code pc (.if_acmp .eq) t pc') (K1 : x = y → Wp p e below P (T.setTop (mkF m t L S))) (K2 : ¬ x = y → Wp p e below P (T.setTop (mkF m pc' L S))) : Wp p e below P (T.setTop (mkF m pc L (y :: x :: S))) := by
  obtain ⟨o, hd, h1, h2, rfl⟩ := hd
  by_cases q : x = y
  · exact Wp.of (fun _ k => Jvm.RoadKit.acmp X.st X.hx rfl hx' hy' (pc0 := pc) (same := true) rfl (X.hb hd) rfl (decide_eq_true q) h1 (by simp [acV, h2]) k) (K1 q)
  · exact Wp.of (fun _ k => Jvm.RoadKit.acmp X.st X.hx rfl hx' hy' (pc0 := pc) (same := false) rfl (X.hb hd) rfl (decide_eq_false q) h1 (by simp [acV, h2]) k) (K2 q)
theorem w_acmpne (X : Sd Z n0 kk code ml own nm ret h p l e R s m args below meth c T locs cells slots) {x y : Value} {t : Nat} (hx' : x.isRef = true) (hy' : y.isRef = true) (hd : Bc code pc (.if_acmp .ne) t pc') (K1 : ¬ x = y → Wp p e below P (T.setTop (mkF m t L S))) (K2 : x = y → Wp p e below P (T.setTop (mkF m pc' L S))) : Wp p e below P (T.setTop (mkF m pc L (y :: x :: S))) := by
  obtain ⟨o, hd, h1, h2, rfl⟩ := hd
  by_cases q : x = y
  · exact Wp.of (fun _ k => Jvm.RoadKit.acmp X.st X.hx rfl hx' hy' (pc0 := pc) (same := true) rfl (X.hb hd) rfl (decide_eq_true q) h1 (by simp [acV, h2]) k) (K2 q)
  · exact Wp.of (fun _ k => Jvm.RoadKit.acmp X.st X.hx rfl hx' hy' (pc0 := pc) (same := false) rfl (X.hb hd) rfl (decide_eq_false q) h1 (by simp [acV, h2]) k) (K1 q)
theorem w_tsw (X : Sd Z n0 kk code ml own nm ret h p l e R s m args below meth c T locs cells slots) {dflt low high : Int} {offs : Array Int} {len : Nat} {o : Int} {t : Nat} {i : Int32} (hd : Dc code pc (.tableswitch dflt low high offs) len pc') (hin : ¬ (i.toInt < low ∨ i.toInt > high)) (hoff : offs[(i.toInt - low).toNat]? = some o) (ho : 0 ≤ (pc : Int) + o) (ht : ((pc : Int) + o).toNat = t) (K : Wp p e below P (T.setTop (mkF m t L S))) : Wp p e below P (T.setTop (mkF m pc L (.int i :: S))) := by
  obtain ⟨hd, -⟩ := hd
  exact Wp.of (fun _ k => XS.tswIn X.st.here X.hx rfl (pc0 := pc) rfl (X.hb hd) rfl hin hoff ho ht k) K
theorem w_ldcI (X : Sd Z n0 kk code ml own nm ret h p l e R s m args below meth c T locs cells slots) {i : Nat} {v : Int32} (hd : Dc code pc (.ldc i) 2 pc') (hw : (Cond.constant own i v).before a0 Z = true) (K : Wp p e below P (T.setTop (mkF m pc' L (.int v :: S)))) : Wp p e below P (T.setTop (mkF m pc L S)) := by
  obtain ⟨hd, rfl⟩ := hd
  exact Wp.of (fun _ k => X.st.ldcInt X.hx X.hown (mvT X.hZ hw) (g := mkF m pc L S) rfl (X.hb hd) _ k) K
theorem w_ldc2J (X : Sd Z n0 kk code ml own nm ret h p l e R s m args below meth c T locs cells slots) {i : Nat} {v : Int64} (hd : Dc code pc (.ldc2_w i) 3 pc') (hw : (Cond.constantLong own i v).before a0 Z = true) (K : Wp p e below P (T.setTop (mkF m pc' L (.long v :: S)))) : Wp p e below P (T.setTop (mkF m pc L S)) := by
  obtain ⟨hd, rfl⟩ := hd
  exact Wp.of (fun _ k => X.st.ldc2Long X.hx X.hown (mvT X.hZ hw) (g := mkF m pc L S) rfl (X.hb hd) _ k) K
end Steps
/-- what a contract says of the end -/
def Po (Z : State) (n0 : Nat) (s : State) (Q : Option Value → Heap → Prop) (ce sl : Nat) : State → Outcome → Prop := fun U o => ∃ v L, o = .returned v ∧ (Fr n0 L ∧ Old Z n0 U.heap ∧ s.heap.size ≤ U.heap.size ∧ Q v U.heap) ∧ FrameEnd s o U L ce sl
/-- called with these arguments at the heap h0, y returns and Q holds of what it returns and of the heap behind it -/
def Does (l : Launch) (Z : State) (n0 : Nat) (y : MethodName) (code : ByteArray) (ml : Nat) (ret : Option FieldType) (ws : List Cond) (rm : Room) (as' : Array Value) (h0 : Heap) (Q : Option Value → Heap → Prop) : Prop :=
  Old Z n0 h0 → MetFree l y (head1 (Cond.code y code ml ret :: ws) rm) (fun a U => a = as' ∧ Z.Warmed39 U.vm ∧ U.heap = h0) (fun _ _ _ _ _ => True) (fun _ U o U' => ∃ v L, o = .returned v ∧ (Fr n0 L ∧ Old Z n0 U'.heap ∧ h0.size ≤ U'.heap.size ∧ Q v U'.heap) ∧ FrameEnd U o U' L rm.cells rm.slots)
theorem Does.start {l : Launch} {Z : State} {n0 : Nat} {y : MethodName} {code : ByteArray} {ml : Nat} {ret : Option FieldType} {ws : List Cond} {rm : Room} {as' : Array Value} {h0 : Heap} {Q : Option Value → Heap → Prop} (hp : plainFor y = true)
    (body : ∀ p e s m below meth c s₁, Sd Z n0 0 code ml y.cls y.name ret h0 p l e rm s m as' below meth c s₁ [] 0 0 → Wp p e below (Po Z n0 s Q rm.cells rm.slots) (s₁.setTop (entryFrame m as' ml))) : Does l Z n0 y code ml ret ws rm as' h0 Q := by
  intro hold
  refine MetFree.of_bodySF hp hisR ?_
  intro p e s m args below meth c s₁ Bd hml0 hP hK
  obtain ⟨rfl, hZ, hh⟩ := hP
  have hh' := hh
  subst hh
  exact body p e s m below meth c s₁ ⟨Stand.of_body Bd, ⟨Bd.exec, Bd.bytes, hml0, findClass_of_methodNamed Bd.named, hZ, Bd.returns, (name_of_methodNamed Bd.named Bd.method).1, Bd.notSynchronized⟩, by rw [Bd.state]; rfl, Fr.nil n0, hold, Nat.zero_le _⟩
theorem Does.mono {l : Launch} {Z : State} {n0 : Nat} {y : MethodName} {code : ByteArray} {ml : Nat} {ret : Option FieldType} {ws : List Cond} {rm : Room} {as' : Array Value} {h0 : Heap} {Q Q' : Option Value → Heap → Prop} (D : Does l Z n0 y code ml ret ws rm as' h0 Q) (f : ∀ v h, Q v h → Q' v h) : Does l Z n0 y code ml ret ws rm as' h0 Q' := by
  intro hold p e ha hc hk s m args below hf happ hP hK
  obtain ⟨n, o, h1, h2, h3, v, L, e1, ⟨q1, q2, q2', q3⟩, q4⟩ := D hold p e ha hc hk s m args below hf happ hP hK
  exact ⟨n, o, h1, h2, h3, v, L, e1, ⟨q1, q2, q2', f _ _ q3⟩, q4⟩
section Steps2
variable {Z : State} {n0 kk : Nat} {code : ByteArray} {ml : Nat} {own nm : String} {ret : Option FieldType} {h : Heap} {p : Program} {l : Launch} {e : Env} {R : Room} {s : State} {m : MethodId} {args : Array Value} {below : List Frame} {meth : Method} {c : Code} {T : State} {locs : List Loc} {cells slots : Nat} {P : State → Outcome → Prop} {a0 : Array Value} {pc pc' : Nat} {L : Array Slot} {S : List Value} {Q : Option Value → Heap → Prop} {ce sl : Nat}
theorem Sd.done (X : Sd Z n0 kk code ml own nm ret h p l e R s m args below meth c T locs cells slots) {v : Option Value} (hv : ret = none → v = none) (hq : Q v h) (hc : cells ≤ ce) (hs : slots ≤ sl) {g : JFrame} (step : ∀ fs, (∀ (f : JFrame) (acts : List Action), f.method = m → f.locked = none → f.entered = [] → (doReturn e (T.setTop f) acts v).1 = T.setFrames fs) → Steps p.tables e below (T.setTop g) (T.setFrames fs)) : Wp p e below (Po Z n0 s Q ce sl) (T.setTop g) := by
  obtain ⟨fs, hr, hrun, hended, hW, hsame⟩ := X.st.leave (v := v) (fun q => hv (X.hret ▸ q)) X.hlk
  have e1 : (T.setFrames fs).heap = h := X.eh
  refine ⟨_, _, step fs hr, hrun, hended, v, locs, rfl, ⟨X.fr, ?_, X.st.same.2.1, ?_⟩, ⟨_, rfl⟩, hW, hsame.mono hc hs⟩
  · rw [e1]; exact X.old
  · rw [e1]; exact hq
theorem w_retI (X : Sd Z n0 kk code ml own nm (some .int) h p l e R s m args below meth c T locs cells slots) {z : Int32} (hd : Dc code pc .ireturn 1 pc') (hq : Q (some (.int z)) h) (hc : cells ≤ ce) (hs : slots ≤ sl) : Wp p e below (Po Z n0 s Q ce sl) (T.setTop (mkF m pc L (.int z :: S))) :=
  X.done nofun hq hc hs fun fs hr => retOut X.st X.hx X.hret rfl (Or.inl ⟨rfl, Or.inl rfl, z, rfl⟩) (X.hb hd.1) hr
theorem w_ret_boolean (X : Sd Z n0 kk code ml own nm (some .boolean) h p l e R s m args below meth c T locs cells slots) {z : Int32} (z' : Int32) (hz : nar .boolean z = z') (hd : Dc code pc .ireturn 1 pc') (hq : Q (some (.int z')) h) (hc : cells ≤ ce) (hs : slots ≤ sl) : Wp p e below (Po Z n0 s Q ce sl) (T.setTop (mkF m pc L (.int z :: S))) := by
  subst hz
  exact X.done nofun hq hc hs fun fs hr => retN X.st X.hx X.hret (by simp) (X.hb hd.1) hr
theorem w_ret_byte (X : Sd Z n0 kk code ml own nm (some .byte) h p l e R s m args below meth c T locs cells slots) {z : Int32} (z' : Int32) (hz : nar .byte z = z') (hd : Dc code pc .ireturn 1 pc') (hq : Q (some (.int z')) h) (hc : cells ≤ ce) (hs : slots ≤ sl) : Wp p e below (Po Z n0 s Q ce sl) (T.setTop (mkF m pc L (.int z :: S))) := by
  subst hz
  exact X.done nofun hq hc hs fun fs hr => retN X.st X.hx X.hret (by simp) (X.hb hd.1) hr
theorem w_ret_char (X : Sd Z n0 kk code ml own nm (some .char) h p l e R s m args below meth c T locs cells slots) {z : Int32} (z' : Int32) (hz : nar .char z = z') (hd : Dc code pc .ireturn 1 pc') (hq : Q (some (.int z')) h) (hc : cells ≤ ce) (hs : slots ≤ sl) : Wp p e below (Po Z n0 s Q ce sl) (T.setTop (mkF m pc L (.int z :: S))) := by
  subst hz
  exact X.done nofun hq hc hs fun fs hr => retN X.st X.hx X.hret (by simp) (X.hb hd.1) hr
theorem w_ret_short (X : Sd Z n0 kk code ml own nm (some .short) h p l e R s m args below meth c T locs cells slots) {z : Int32} (z' : Int32) (hz : nar .short z = z') (hd : Dc code pc .ireturn 1 pc') (hq : Q (some (.int z')) h) (hc : cells ≤ ce) (hs : slots ≤ sl) : Wp p e below (Po Z n0 s Q ce sl) (T.setTop (mkF m pc L (.int z :: S))) := by
  subst hz
  exact X.done nofun hq hc hs fun fs hr => retN X.st X.hx X.hret (by simp) (X.hb hd.1) hr
theorem w_retJ (X : Sd Z n0 kk code ml own nm (some .long) h p l e R s m args below meth c T locs cells slots) {z : Int64} (hd : Dc code pc .lreturn 1 pc') (hq : Q (some (.long z)) h) (hc : cells ≤ ce) (hs : slots ≤ sl) : Wp p e below (Po Z n0 s Q ce sl) (T.setTop (mkF m pc L (.long z :: S))) :=
  X.done nofun hq hc hs fun fs hr => retOut X.st X.hx X.hret rfl (Or.inr (Or.inl ⟨rfl, rfl, z, rfl⟩)) (X.hb hd.1) hr
theorem w_retR (X : Sd Z n0 kk code ml own nm ret h p l e R s m args below meth c T locs cells slots) {t : FieldType} {z : Value} (ht : t.isReference = true) (hz : z.isRef = true) (hret : ret = some t) (hd : Dc code pc .areturn 1 pc') (hq : Q (some z) h) (hc : cells ≤ ce) (hs : slots ≤ sl) : Wp p e below (Po Z n0 s Q ce sl) (T.setTop (mkF m pc L (z :: S))) := by
  subst hret
  exact X.done nofun hq hc hs fun fs hr => retOut X.st X.hx X.hret (by rcases ref_cases hz with rfl | ⟨z, rfl⟩ <;> cases t <;> first | rfl | cases ht) (Or.inr (Or.inr (Or.inr (Or.inr ⟨rfl, ht, hz⟩)))) (X.hb hd.1) hr
theorem w_retV (X : Sd Z n0 kk code ml own nm (none) h p l e R s m args below meth c T locs cells slots) (hd : Dc code pc .return_ 1 pc') (hq : Q none h) (hc : cells ≤ ce) (hs : slots ≤ sl) : Wp p e below (Po Z n0 s Q ce sl) (T.setTop (mkF m pc L [])) :=
  X.done (fun _ => rfl) hq hc hs fun fs hr => X.st.returnOut X.hx X.hret (X.hb hd.1) hr
theorem w_getF (X : Sd Z n0 kk code ml own nm ret h p l e R s m args below meth c T locs cells slots) {R0 O n d host : String} {index : Nat} {a : Addr} {v : Value} (hd : Dc code pc (.getfield index) 3 pc') (w : (Cond.fieldLink own index R0 n d).before a0 Z = true ∨ (Cond.fieldLinkNest own index R0 n d host).before a0 Z = true) (via : Via Z R0 O n d) (F : Fld Z h a O n d v) (K : ∀ T', Sd Z n0 kk code ml own nm ret h p l e R s m args below meth c T' locs cells slots → Wp p e below P (T'.setTop (mkF m pc' L (v :: S)))) : Wp p e below P (T.setTop (mkF m pc L (.ref a :: S))) := by
  obtain ⟨hd, rfl⟩ := hd
  obtain ⟨T', X', e', st⟩ := getF X.st X.hx X.hZ X.hown w via X.eh F (g := mkF m pc L (.ref a :: S)) rfl rfl (X.hb hd)
  exact Wp.of st (K T' (X.mk' X' e' X.fr X.old (Nat.le_refl _)))
theorem w_getS (X : Sd Z n0 kk code ml own nm ret h p l e R s m args below meth c T locs cells slots) {R0 O n d host : String} {index : Nat} {v : Value} (hd : Dc code pc (.getstatic index) 3 pc') (w : (Cond.fieldLink own index R0 n d).before a0 Z = true ∨ (Cond.fieldLinkNest own index R0 n d host).before a0 Z = true) (via : Via Z R0 O n d) (F : Sta Z h O n d v) (K : ∀ T', Sd Z n0 kk code ml own nm ret h p l e R s m args below meth c T' locs cells slots → Wp p e below P (T'.setTop (mkF m pc' L (v :: S)))) : Wp p e below P (T.setTop (mkF m pc L S)) := by
  obtain ⟨hd, rfl⟩ := hd
  obtain ⟨T', X', e', st⟩ := getS2 X.st X.hx X.hZ X.hown w via X.eh F (g := mkF m pc L S) rfl (X.hb hd)
  exact Wp.of st (K T' (X.mk' X' e' X.fr X.old (Nat.le_refl _)))
theorem w_putF (X : Sd Z n0 kk code ml own nm ret h p l e R s m args below meth c T locs cells slots) {R0 O n d host C : String} {index ni : Nat} {ty : FieldType} {a : Addr} {v old : Value} (hd : Dc code pc (.putfield index) 3 pc')  (w : (Cond.fieldLink own index R0 n d).before a0 Z = true ∨ (Cond.fieldLinkNest own index R0 n d host).before a0 Z = true) (via : Via Z R0 O n d) (F : Fld Z h a O n d old) (E : Exa Z h a C) (L0 : (Cond.lays C O n d).before a0 Z = true ∨ ((Cond.laysFinal C O n d).before a0 Z = true ∧ own = O ∧ nm = "<init>")) (wi : (Cond.instantiable C ni).before a0 Z = true) (hty : parseFieldDescriptor d = some ty) (hn : narrow ty v = v) (hf : fits ty v = true) (ga : n0 ≤ a) (K : ∀ T' h', Sd Z n0 kk code ml own nm ret h' p l e R s m args below meth c T' (locs ++ [⟨a, slotOf Z O n d⟩]) cells slots → Wr h h' a (slotOf Z O n d) v → Wp p e below P (T'.setTop (mkF m pc' L S))) : Wp p e below P (T.setTop (mkF m pc L (v :: .ref a :: S))) := by
  obtain ⟨hd, rfl⟩ := hd
  obtain ⟨T', h', X', e', W, st⟩ := putF X.st X.hx X.hZ X.hown w via X.eh F E (L0.imp id fun q => ⟨q.1, q.2.1, X.hnm.trans q.2.2⟩) wi hty hn hf (g := mkF m pc L (v :: .ref a :: S)) rfl rfl (X.hb hd)
  exact Wp.of st (K T' h' (X.mk' X' e' (Fr.snoc X' X.fr ga) (X.old.wr W ga) (Nat.le_of_eq W.size.symm)) W)
theorem w_putFN (X : Sd Z n0 kk code ml own nm ret h p l e R s m args below meth c T locs cells slots) {R0 O n d C : String} {index ni : Nat} {ty : FieldType} {a : Addr} {v old : Value} (hd : Dc code pc (.putfield index) 3 pc')  (w : (Cond.fieldLink own index R0 n d).before a0 Z = true) (via : Via Z R0 O n d) (F : Fld Z h a O n d old) (E : Exa Z h a C) (L0 : (Cond.lays C O n d).before a0 Z = true ∨ ((Cond.laysFinal C O n d).before a0 Z = true ∧ own = O ∧ nm = "<init>")) (wi : (Cond.instantiable C ni).before a0 Z = true) (hty : parseFieldDescriptor d = some ty) (v' : Value) (hn : narrow ty v = v') (hf : fits ty v' = true) (ga : n0 ≤ a) (K : ∀ T' h', Sd Z n0 kk code ml own nm ret h' p l e R s m args below meth c T' (locs ++ [⟨a, slotOf Z O n d⟩]) cells slots → Wr h h' a (slotOf Z O n d) v' → Wp p e below P (T'.setTop (mkF m pc' L S))) : Wp p e below P (T.setTop (mkF m pc L (v :: .ref a :: S))) := by
  obtain ⟨hd, rfl⟩ := hd
  obtain ⟨T', h', X', e', W, st⟩ := putFN X.st X.hx X.hZ X.hown w via X.eh F E (L0.imp id fun q => ⟨q.1, q.2.1, X.hnm.trans q.2.2⟩) wi hty hn hf (g := mkF m pc L (v :: .ref a :: S)) rfl rfl (X.hb hd)
  exact Wp.of st (K T' h' (X.mk' X' e' (Fr.snoc X' X.fr ga) (X.old.wr W ga) (Nat.le_of_eq W.size.symm)) W)
theorem w_new (X : Sd Z n0 kk code ml own nm ret h p l e R s m args below meth c T locs cells slots) {C : String} {index n : Nat} (hd : Dc code pc (.new index) 3 pc') (w1 : (Cond.classLink own index C).before a0 Z = true) (wi : (Cond.instantiable C n).before a0 Z = true) (wz : (Cond.initialized C).before a0 Z = true) (hc : cells + 1 ≤ R.cells) (hl : slots + n ≤ R.slots) (K : ∀ T' h' b, b = h.size → n0 ≤ b → Sd Z n0 kk code ml own nm ret h' p l e R s m args below meth c T' locs (cells + 1) (slots + n) → Ext h h' → Exa Z h' b C → (∀ {O nm' d : String} {ty : FieldType}, Laid Z a0 C O nm' d → parseFieldDescriptor d = some ty → Fld Z h' b O nm' d (defaultValue ty)) → Wp p e below P (T'.setTop (mkF m pc' L (.ref b :: S)))) : Wp p e below P (T.setTop (mkF m pc L S)) := by
  obtain ⟨hd, rfl⟩ := hd
  obtain ⟨T', h', X', e', E, A, D, -, st⟩ := newO X.st X.hx X.hZ X.hown w1 wi wz X.eh (g := mkF m pc L S) rfl (X.hb hd) hc hl
  exact Wp.of st (K T' h' _ rfl (X.old.1 ▸ X.old.2.1) (X.mk' X' e' X.fr (X.old.ext E) E.1) E A D)
theorem w_initO (X : Sd Z n0 kk code ml own nm ret h p l e R s m args below meth c T locs cells slots) {index : Nat} {a : Addr} (hd : Dc code pc (.invokespecial index) 3 pc') (w1 : (Cond.methodLink own index Lib.objectInit).before a0 Z = true) (w2 : (Cond.instanceMethod Lib.objectInit).before a0 Z = true) (w3 : (Cond.code Lib.objectInit ⟨#[0xb1]⟩ 1 none).before a0 Z = true) (hsz : L.size = ml) (hf : 1 ≤ R.frames) (hl : (S.map fun v => v.category).sum + 12 ≤ R.locals) (K : ∀ T', Sd Z n0 kk code ml own nm ret h p l e R s m args below meth c T' locs cells slots → Wp p e below P (T'.setTop (mkF m pc' L S))) : Wp p e below P (T.setTop (mkF m pc L (.ref a :: S))) := by
  obtain ⟨hd, rfl⟩ := hd
  obtain ⟨T', X', e', st⟩ := initO X.st X.hx X.hZ X.hown w1 w2 w3 X.eh (g := mkF m pc L (.ref a :: S)) rfl (by rw [X.hml]; exact hsz) rfl (X.hb hd) hf (W := (S.map fun v => v.category).sum) (by show 2 * 0 + _ ≤ _; omega) hl
  exact Wp.of st (K T' (X.mk' X' e' X.fr X.old (Nat.le_refl _)))
theorem w_callS (X : Sd Z n0 kk code ml own nm ret h p l e R s m args below meth c T locs cells slots) {y : MethodName} {bytes : ByteArray} {maxL : Nat} {ret' : Option FieldType} {rm : Room} {index : Nat} {Q' : Option Value → Heap → Prop} {ps : List FieldType} {rr : Option FieldType} {stk : List Value} (hd : Dc code pc (.invokestatic index) 3 pc') (w1 : (Cond.methodLink own index y).before a0 Z = true) (w2 : (Cond.static y).before a0 Z = true) (w3 : (Cond.initialized y.cls).before a0 Z = true) (w4 : (Cond.code y bytes maxL ret').before a0 Z = true) (hy : y.cls ≠ "java/lang/invoke/MethodHandle" ∧ y.cls ≠ "java/lang/invoke/VarHandle") {argsL : List Value} (D : Does l Z n0 y bytes maxL ret' [] rm argsL.toArray h Q') (hpd : parseMethodDescriptor y.desc = some ⟨ps, rr⟩) (hlen : argsL.length = ps.length) (hst : stk = argsL.reverse ++ S) (hsz : L.size = ml) (hf : rm.frames + 1 ≤ R.frames) (hl : (S.map fun v => v.category).sum + (maxL + 11) + rm.locals ≤ R.locals) (hc : cells + rm.cells ≤ R.cells) (hs : slots + rm.slots ≤ R.slots) (K : ∀ T' h' v L', Sd Z n0 kk code ml own nm ret h' p l e R s m args below meth c T' (locs ++ L') (cells + rm.cells) (slots + rm.slots) → Q' v h' → Wp p e below P (T'.setTop (mkF m pc' L (v.toList ++ S)))) : Wp p e below P (T.setTop (mkF m pc L stk)) := by
  obtain ⟨hd, rfl⟩ := hd
  obtain ⟨v, vm1, ⟨T', L1, k1, n1⟩, -, X', ⟨Lc, hQ, l1, y1, z1⟩, st⟩ := Jvm.LawKit.callS X.st X.hx X.hown (mvT X.hZ w1) (mvT X.hZ w2) (mvT X.hZ w3) (mvT X.hZ w4) hy (backOf (Q := fun v h' L => Fr n0 L ∧ Old Z n0 h' ∧ h.size ≤ h'.size ∧ Q' v h') (W := (S.map fun v => v.category).sum) (D X.old) X.hZ w4 w3 hf hl) (g := mkF m pc L stk) rfl (by rw [X.hml]; exact hsz) (argsL := argsL) (rest := S) (lenOf hpd hlen) hst (by show 2 * 0 + _ ≤ _; omega) (X.hb hd) (fun _ _ => ⟨rfl, X.eh, hc, hs⟩)
  dsimp only [Pt.U, Pt.locs, Pt.cells, Pt.slots] at X' l1 y1 z1 st hQ
  subst l1 y1 z1
  exact Wp.of st (K T' _ v Lc (X.mk' X' rfl (X.fr.app hQ.1) hQ.2.1 hQ.2.2.1) hQ.2.2.2)
theorem w_callI (X : Sd Z n0 kk code ml own nm ret h p l e R s m args below meth c T locs cells slots) {y : MethodName} {bytes : ByteArray} {maxL : Nat} {rm : Room} {index : Nat} {Q' : Option Value → Heap → Prop} {ps : List FieldType} {rr : Option FieldType} {stk : List Value} (hd : Dc code pc (.invokespecial index) 3 pc') (hi : y.name = "<init>") (w1 : (Cond.methodLink own index y).before a0 Z = true) (w2 : (Cond.instanceMethod y).before a0 Z = true) (w3 : (Cond.initialized y.cls).before a0 Z = true) (w4 : (Cond.code y bytes maxL none).before a0 Z = true) (hy : y.cls ≠ "java/lang/invoke/MethodHandle" ∧ y.cls ≠ "java/lang/invoke/VarHandle") {a : Addr} {argsL : List Value} (D : Does l Z n0 y bytes maxL none [] rm (.ref a :: argsL).toArray h Q') (hpd : parseMethodDescriptor y.desc = some ⟨ps, rr⟩) (hlen : argsL.length = ps.length) (hst : stk = argsL.reverse ++ .ref a :: S) (hsz : L.size = ml) (hf : rm.frames + 1 ≤ R.frames) (hl : (S.map fun v => v.category).sum + (maxL + 11) + rm.locals ≤ R.locals) (hc : cells + rm.cells ≤ R.cells) (hs : slots + rm.slots ≤ R.slots) (K : ∀ T' h' v L', Sd Z n0 kk code ml own nm ret h' p l e R s m args below meth c T' (locs ++ L') (cells + rm.cells) (slots + rm.slots) → Q' v h' → Wp p e below P (T'.setTop (mkF m pc' L (v.toList ++ S)))) : Wp p e below P (T.setTop (mkF m pc L stk)) := by
  obtain ⟨hd, rfl⟩ := hd
  obtain ⟨v, vm1, ⟨T', L1, k1, n1⟩, -, X', ⟨Lc, hQ, l1, y1, z1⟩, st⟩ := X.st.specialBack X.hx hi X.hown (mvT X.hZ w1) (mvT X.hZ w2) (mvT X.hZ w4) hy (backOf (Q := fun v h' L => Fr n0 L ∧ Old Z n0 h' ∧ h.size ≤ h'.size ∧ Q' v h') (W := (S.map fun v => v.category).sum) (D X.old) X.hZ w4 w3 hf hl) (g := mkF m pc L stk) rfl (by rw [X.hml]; exact hsz) (Steps.refl _) (a := a) (argsL := argsL) (rest := S) (lenOf hpd hlen) hst (by show 2 * 0 + _ ≤ _; omega) (X.hb hd) (fun _ _ => ⟨rfl, X.eh, hc, hs⟩)
  dsimp only [Pt.U, Pt.locs, Pt.cells, Pt.slots] at X' l1 y1 z1 st hQ
  subst l1 y1 z1
  exact Wp.tr st (K T' _ v Lc (X.mk' X' rfl (X.fr.app hQ.1) hQ.2.1 hQ.2.2.1) hQ.2.2.2)
theorem w_callV (X : Sd Z n0 kk code ml own nm ret h p l e R s m args below meth c T locs cells slots) {y : MethodName} {bytes : ByteArray} {maxL : Nat} {ret' : Option FieldType} {rm : Room} {index : Nat} {Q' : Option Value → Heap → Prop} {ps : List FieldType} {rr : Option FieldType} {stk : List Value} {z : MethodName} {C : String} (hd : Dc code pc (.invokevirtual index) 3 pc') (w1 : (Cond.methodLink own index y).before a0 Z = true) (wd : (Cond.declares y).before a0 Z = true) (hnf : NotFace s y) (ws : (Cond.selects C y z).before a0 Z = true) (w2 : (Cond.instanceMethod z).before a0 Z = true) (w3 : (Cond.initialized z.cls).before a0 Z = true) (w4 : (Cond.code z bytes maxL ret').before a0 Z = true) (hy : y.cls ≠ "java/lang/invoke/MethodHandle" ∧ y.cls ≠ "java/lang/invoke/VarHandle") {a : Addr} (E : Exa Z h a C) {argsL : List Value} (D : Does l Z n0 z bytes maxL ret' [] rm (.ref a :: argsL).toArray h Q') (hpd : parseMethodDescriptor y.desc = some ⟨ps, rr⟩) (hlen : argsL.length = ps.length) (hst : stk = argsL.reverse ++ .ref a :: S) (hsz : L.size = ml) (hf : rm.frames + 1 ≤ R.frames) (hl : (S.map fun v => v.category).sum + (maxL + 11) + rm.locals ≤ R.locals) (hc : cells + rm.cells ≤ R.cells) (hs : slots + rm.slots ≤ R.slots) (K : ∀ T' h' v L', Sd Z n0 kk code ml own nm ret h' p l e R s m args below meth c T' (locs ++ L') (cells + rm.cells) (slots + rm.slots) → Q' v h' → Wp p e below P (T'.setTop (mkF m pc' L (v.toList ++ S)))) : Wp p e below P (T.setTop (mkF m pc L stk)) := by
  obtain ⟨hd, rfl⟩ := hd
  obtain ⟨cq, kq, qa, qb, qc⟩ := isOf X.hZ X.eh E
  obtain ⟨v, vm1, ⟨T', L1, k1, n1⟩, -, X', ⟨Lc, hQ, l1, y1, z1⟩, st⟩ := X.st.virtualBack X.hx X.hown (mvT X.hZ w1) (mvT X.hZ wd) hnf (mvT X.hZ ws) (mvT X.hZ w2) hy (backOf (Q := fun v h' L => Fr n0 L ∧ Old Z n0 h' ∧ h.size ≤ h'.size ∧ Q' v h') (W := (S.map fun v => v.category).sum) (D X.old) X.hZ w4 w3 hf hl) qa qc (g := mkF m pc L stk) rfl (by rw [X.hml]; exact hsz) (Steps.refl _) (argsL := argsL) (rest := S) (lenOf hpd hlen) hst (by show 2 * 0 + _ ≤ _; omega) (X.hb hd) (fun _ _ => ⟨rfl, X.eh, hc, hs⟩)
  dsimp only [Pt.U, Pt.locs, Pt.cells, Pt.slots] at X' l1 y1 z1 st hQ
  subst l1 y1 z1
  exact Wp.tr st (K T' _ v Lc (X.mk' X' rfl (X.fr.app hQ.1) hQ.2.1 hQ.2.2.1) hQ.2.2.2)
theorem w_callP (X : Sd Z n0 kk code ml own nm ret h p l e R s m args below meth c T locs cells slots) {y : MethodName} {bytes : ByteArray} {maxL : Nat} {ret' : Option FieldType} {rm : Room} {index : Nat} {Q' : Option Value → Heap → Prop} {ps : List FieldType} {rr : Option FieldType} {stk : List Value} (hd : Dc code pc (.invokevirtual index) 3 pc') (w1 : (Cond.methodLink own index y).before a0 Z = true) (w2 : (Cond.instanceMethod y).before a0 Z = true) (ws : (Cond.selects y.cls y y).before a0 Z = true) (wp : (Cond.privateMethod y).before a0 Z = true) (w3 : (Cond.initialized y.cls).before a0 Z = true) (w4 : (Cond.code y bytes maxL ret').before a0 Z = true) (hy : y.cls ≠ "java/lang/invoke/MethodHandle" ∧ y.cls ≠ "java/lang/invoke/VarHandle") {a : Addr} {C : String} (E : Exa Z h a C) {argsL : List Value} (D : Does l Z n0 y bytes maxL ret' [] rm (.ref a :: argsL).toArray h Q') (hpd : parseMethodDescriptor y.desc = some ⟨ps, rr⟩) (hlen : argsL.length = ps.length) (hst : stk = argsL.reverse ++ .ref a :: S) (hsz : L.size = ml) (hf : rm.frames + 1 ≤ R.frames) (hl : (S.map fun v => v.category).sum + (maxL + 11) + rm.locals ≤ R.locals) (hc : cells + rm.cells ≤ R.cells) (hs : slots + rm.slots ≤ R.slots) (K : ∀ T' h' v L', Sd Z n0 kk code ml own nm ret h' p l e R s m args below meth c T' (locs ++ L') (cells + rm.cells) (slots + rm.slots) → Q' v h' → Wp p e below P (T'.setTop (mkF m pc' L (v.toList ++ S)))) : Wp p e below P (T.setTop (mkF m pc L stk)) := by
  obtain ⟨hd, rfl⟩ := hd
  obtain ⟨cq, qa, qb⟩ := E.cell
  obtain ⟨v, vm1, ⟨T', L1, k1, n1⟩, -, X', ⟨Lc, hQ, l1, y1, z1⟩, st⟩ := X.st.privateBack X.hx X.hown (mvT X.hZ w1) (mvT X.hZ w2) (mvT X.hZ ws) (Cond.privateMethod_at (mvP X.hZ wp (args := #[]))) (mvT X.hZ w4) hy (backOf (Q := fun v h' L => Fr n0 L ∧ Old Z n0 h' ∧ h.size ≤ h'.size ∧ Q' v h') (W := (S.map fun v => v.category).sum) (D X.old) X.hZ w4 w3 hf hl) (g := mkF m pc L stk) rfl (by rw [X.hml]; exact hsz) (Steps.refl _) (a := a) (by rw [X.eh]; exact qa) qb (argsL := argsL) (rest := S) (lenOf hpd hlen) hst (by show 2 * 0 + _ ≤ _; omega) (X.hb hd) (fun _ _ => ⟨rfl, X.eh, hc, hs⟩)
  dsimp only [Pt.U, Pt.locs, Pt.cells, Pt.slots] at X' l1 y1 z1 st hQ
  subst l1 y1 z1
  exact Wp.tr st (K T' _ v Lc (X.mk' X' rfl (X.fr.app hQ.1) hQ.2.1 hQ.2.2.1) hQ.2.2.2)
theorem w_callU (X : Sd Z n0 kk code ml own nm ret h p l e R s m args below meth c T locs cells slots) {y : MethodName} {bytes : ByteArray} {maxL : Nat} {ret' : Option FieldType} {rm : Room} {index : Nat} {Q' : Option Value → Heap → Prop} {ps : List FieldType} {rr : Option FieldType} {stk : List Value} {z : MethodName} {C owner : String} (hd : Dc code pc (.invokevirtual index) 3 pc') (w1 : (Cond.methodLink own index y).before a0 Z = true) (wsm : (Cond.sameMethod y.cls owner y.name y.desc).before a0 Z = true) (wd : (Cond.declares ⟨owner, y.name, y.desc⟩).before a0 Z = true) (ho : owner ≠ "java/lang/invoke/MethodHandle" ∧ owner ≠ "java/lang/invoke/VarHandle") (ws : (Cond.selects C y z).before a0 Z = true) (w2 : (Cond.instanceMethod z).before a0 Z = true) (w3 : (Cond.initialized z.cls).before a0 Z = true) (w4 : (Cond.code z bytes maxL ret').before a0 Z = true) {a : Addr} (E : Exa Z h a C) {argsL : List Value} (D : Does l Z n0 z bytes maxL ret' [] rm (.ref a :: argsL).toArray h Q') (hpd : parseMethodDescriptor y.desc = some ⟨ps, rr⟩) (hlen : argsL.length = ps.length) (hst : stk = argsL.reverse ++ .ref a :: S) (hsz : L.size = ml) (hf : rm.frames + 1 ≤ R.frames) (hl : (S.map fun v => v.category).sum + (maxL + 11) + rm.locals ≤ R.locals) (hc : cells + rm.cells ≤ R.cells) (hs : slots + rm.slots ≤ R.slots) (K : ∀ T' h' v L', Sd Z n0 kk code ml own nm ret h' p l e R s m args below meth c T' (locs ++ L') (cells + rm.cells) (slots + rm.slots) → Q' v h' → Wp p e below P (T'.setTop (mkF m pc' L (v.toList ++ S)))) : Wp p e below P (T.setTop (mkF m pc L stk)) := by
  obtain ⟨hd, rfl⟩ := hd
  obtain ⟨cq, kq, qa, qb, qc⟩ := isOf X.hZ X.eh E
  obtain ⟨v, vm1, ⟨T', L1, k1, n1⟩, -, X', ⟨Lc, hQ, l1, y1, z1⟩, st⟩ := X.st.virtualBackUp X.hx X.hown (mvT X.hZ w1) (mvT X.hZ wsm) (mvT X.hZ wd) ho (mvT X.hZ ws) (mvT X.hZ w2) (backOf (Q := fun v h' L => Fr n0 L ∧ Old Z n0 h' ∧ h.size ≤ h'.size ∧ Q' v h') (W := (S.map fun v => v.category).sum) (D X.old) X.hZ w4 w3 hf hl) qa qc (g := mkF m pc L stk) rfl (by rw [X.hml]; exact hsz) (Steps.refl _) (argsL := argsL) (rest := S) (lenOf hpd hlen) hst (by show 2 * 0 + _ ≤ _; omega) (X.hb hd) (fun _ _ => ⟨rfl, X.eh, hc, hs⟩)
  dsimp only [Pt.U, Pt.locs, Pt.cells, Pt.slots] at X' l1 y1 z1 st hQ
  subst l1 y1 z1
  exact Wp.tr st (K T' _ v Lc (X.mk' X' rfl (X.fr.app hQ.1) hQ.2.1 hQ.2.2.1) hQ.2.2.2)
end Steps2
end Jvm.RoadKit
namespace Jvm.RoadKit
theorem own_eqI {args : Array Value} {first s : State} {o : Option Outcome} {idx : List Nat} {a b : Term} {x y : Int32} (ha : a.eval args first o idx s = some (.int x)) (hb : b.eval args first o idx s = some (.int y)) : (Cond.eq a b).value args first o s idx = some (decide (x = y)) := by simp [Cond.value, ha, hb]
end Jvm.RoadKit
namespace Jvm.Pilot.@@N@@
open Jvm Jvm.ClassFile Sem Op Lib Jvm.Free Jvm.Stand Jvm.LawKit Jvm.RoadKit Bundle Jvm.Pilot.@@N@@.Jvm.D
theorem own_ne {Z : State} {h : Heap} {a b : Addr} {C n d : String} {v w : Int32} (F : Fld Z h a C n d (.int v)) (G : Fld Z h b C n d (.int w)) (q : v ≠ w) : a ≠ b := fun r => by
  subst r
  obtain ⟨c1, _, _, _, f1, h1, h2, -, -, -, -, h3⟩ := F
  obtain ⟨c2, _, _, _, f2, g1, g2, -, -, -, -, g3⟩ := G
  cases h1.symm.trans g1
  cases h2.symm.trans g2
  cases h3.symm.trans g3
  exact q rfl
def own_pick (i : Int32) (sA sB sC sE : Addr) : Addr := if i = 0 then sA else if i = 1 then sB else if i = 2 then sC else sE
theorem own_and3 (k : Int32) : k &&& (3 : Int32) = 0 ∨ k &&& (3 : Int32) = 1 ∨ k &&& (3 : Int32) = 2 ∨ k &&& (3 : Int32) = 3 := by
  have h := Jvm.Kit.i32_mask k 3 (k := 2) (by decide) (by decide)
  simp only [← Int32.toInt_inj]
  have e0 : (0 : Int32).toInt = 0 := rfl
  have e1 : (1 : Int32).toInt = 1 := rfl
  have e2 : (2 : Int32).toInt = 2 := rfl
  have e3 : (3 : Int32).toInt = 3 := rfl
  omega
def own_abs (x : Int64) : Int64 := if x < 0 then -x else x
def own_cmp (x y : Int64) : Int32 := if x < y then -1 else if x = y then 0 else 1
theorem own_abs_int {x : Int64} (h : x.toInt ≠ -2 ^ 63) : (own_abs x).toInt = x.toInt.natAbs := by
  unfold own_abs
  split
  · rename_i q
    have q' : x.toInt < 0 := Int64.lt_iff_toInt_lt.mp q
    rw [Jvm.Kit.i64_neg h]; omega
  · rename_i q
    have q' : ¬ x.toInt < 0 := fun r => q (Int64.lt_iff_toInt_lt.mpr r)
    omega
theorem own_rem_int (x y : Int64) : (x % y).toInt = x.toInt.tmod y.toInt := Int64.toInt_mod x y
theorem own_nz {x : Int64} (h : 0 < x.toInt) : ¬ x = 0 := fun q => by subst q; exact absurd h (by decide)
/-- one turn of Euclid's loop -/
theorem own_turn {x y : Int64} (hx : 0 < x.toInt) (hy : 0 ≤ y.toInt) (hn : ¬ y = 0) : 0 < y.toInt ∧ 0 ≤ (x % y).toInt ∧ (x % y).toInt < y.toInt ∧ ∀ d : Int, d ∣ y.toInt → d ∣ (x % y).toInt → d ∣ x.toInt := by
  have h0 : y.toInt ≠ 0 := fun q => hn (Int64.toInt_inj.mp q)
  have hp : 0 < y.toInt := by omega
  rw [own_rem_int, Int.tmod_eq_emod_of_nonneg (Int.le_of_lt hx)]
  refine ⟨hp, Int.emod_nonneg _ h0, Int.emod_lt_of_pos _ hp, fun d q1 q2 => ?_⟩
  have e := Int.emod_add_mul_ediv x.toInt y.toInt
  rw [← e]
  exact Int.dvd_add q2 (Int.dvd_trans q1 (Int.dvd_mul_right _ _))
theorem own_first {a b : Int64} (hb : 0 < b.toInt) : 0 ≤ (own_abs (a % b)).toInt ∧ ∀ d : Int, d ∣ b.toInt → d ∣ (own_abs (a % b)).toInt → d ∣ a.toInt ∧ d ∣ b.toInt := by
  have h1 := Int64.toInt_lt b
  have hr : (a % b).toInt = a.toInt.tmod b.toInt := own_rem_int a b
  have l1 : (a.toInt.tmod b.toInt).natAbs < b.toInt.natAbs := by
    rw [Int.natAbs_tmod]; exact Nat.mod_lt _ (by omega)
  have hne : (a % b).toInt ≠ -2 ^ 63 := by rw [hr]; omega
  rw [own_abs_int hne]
  refine ⟨by omega, fun d q1 q2 => ⟨?_, q1⟩⟩
  have q3 : d ∣ a.toInt.tmod b.toInt := by rw [← hr]; exact Int.dvd_natAbs.mp q2
  have e := Int.tmod_add_mul_tdiv a.toInt b.toInt
  rw [← e]
  exact Int.dvd_add q3 (Int.dvd_trans q1 (Int.dvd_mul_right _ _))
theorem own_quot {a g : Int64} (hg : 0 < g.toInt) (hd : g.toInt ∣ a.toInt) : (a / g).toInt * g.toInt = a.toInt := by
  rw [Jvm.Kit.i64_div (by rintro ⟨-, q⟩; omega), Int.tdiv_mul_cancel hd]
theorem own_mulb {a b N M K : Int} (h1 : -N ≤ a) (h2 : a ≤ M) (h3 : 0 ≤ b) (h4 : b ≤ K) (hN : 0 ≤ N) (hM : 0 ≤ M) : -(N * K) ≤ a * b ∧ a * b ≤ M * K := by
  constructor
  · have := Int.mul_le_mul_of_nonneg_right h1 h3
    have := Int.mul_le_mul_of_nonneg_left h4 hN
    rw [Int.neg_mul] at *
    omega
  · exact Int.le_trans (Int.mul_le_mul_of_nonneg_right h2 h3) (Int.mul_le_mul_of_nonneg_left h4 hM)
theorem own_mulb2 {a b : Int} (h1 : -2147483648 ≤ a) (h2 : a ≤ 2147483647) (h3 : -2147483648 ≤ b) (h4 : b ≤ 2147483647) : -4611686018427387904 ≤ a * b ∧ a * b ≤ 4611686018427387904 := by
  rcases Int.le_total 0 b with q | q
  · have := own_mulb (N := 2147483648) (M := 2147483647) (K := 2147483647) h1 h2 q h4 (by decide) (by decide); omega
  · have := own_mulb (N := 2147483648) (M := 2147483647) (K := 2147483648) h1 h2 (b := -b) (by omega) (by omega) (by decide) (by decide)
    rw [Int.mul_neg] at this; omega
def own_mhv (x y : Int64) : Int64 :=
  (((x >>> ((32 : Int32) &&& 0x3f).toInt64) * (y >>> ((32 : Int32) &&& 0x3f).toInt64)) + ((((x >>> ((32 : Int32) &&& 0x3f).toInt64) * (y &&& (4294967295 : Int64))) + ((((x &&& (4294967295 : Int64)) * (y &&& (4294967295 : Int64))).toUInt64 >>> ((32 : Int32) &&& 0x3f).toInt64.toUInt64).toInt64)) >>> ((32 : Int32) &&& 0x3f).toInt64)) + ((((((x >>> ((32 : Int32) &&& 0x3f).toInt64) * (y &&& (4294967295 : Int64))) + ((((x &&& (4294967295 : Int64)) * (y &&& (4294967295 : Int64))).toUInt64 >>> ((32 : Int32) &&& 0x3f).toInt64.toUInt64).toInt64)) &&& (4294967295 : Int64)) + ((x &&& (4294967295 : Int64)) * (y >>> ((32 : Int32) &&& 0x3f).toInt64))) >>> ((32 : Int32) &&& 0x3f).toInt64)
theorem own_mh (x y : Int64) : (own_mhv x y).toInt = x.toInt * y.toInt / 18446744073709551616 := by
  unfold own_mhv
  have a1 : (x >>> ((32 : Int32) &&& 0x3f).toInt64).toInt = x.toInt / 4294967296 := c_lshr x 32 32 (by decide)
  have b1 : (y >>> ((32 : Int32) &&& 0x3f).toInt64).toInt = y.toInt / 4294967296 := c_lshr y 32 32 (by decide)
  have a2 : (x &&& (4294967295 : Int64)).toInt = x.toInt % 4294967296 := Jvm.Kit.i64_mask x _ (k := 32) (by decide) (by decide)
  have b2 : (y &&& (4294967295 : Int64)).toInt = y.toInt % 4294967296 := Jvm.Kit.i64_mask y _ (k := 32) (by decide) (by decide)
  have lx := Int64.toInt_lt x; have gx := Int64.le_toInt x; have ly := Int64.toInt_lt y; have gy := Int64.le_toInt y
  generalize x >>> ((32 : Int32) &&& 0x3f).toInt64 = x1 at *
  generalize y >>> ((32 : Int32) &&& 0x3f).toInt64 = y1 at *
  generalize x &&& (4294967295 : Int64) = x2 at *
  generalize y &&& (4294967295 : Int64) = y2 at *
  have r1 : -2147483648 ≤ x1.toInt ∧ x1.toInt ≤ 2147483647 := by omega
  have r2 : -2147483648 ≤ y1.toInt ∧ y1.toInt ≤ 2147483647 := by omega
  have r3 : 0 ≤ x2.toInt ∧ x2.toInt ≤ 4294967295 := by omega
  have r4 : 0 ≤ y2.toInt ∧ y2.toInt ≤ 4294967295 := by omega
  have ex : x.toInt = x1.toInt * 4294967296 + x2.toInt := by omega
  have ey : y.toInt = y1.toInt * 4294967296 + y2.toInt := by omega
  have bA := own_mulb (N := 2147483648) (M := 2147483647) (K := 4294967295) (by omega) (by omega) r4.1 r4.2 (by decide) (by decide) (a := x1.toInt)
  have bB := own_mulb (N := 2147483648) (M := 2147483647) (K := 4294967295) (by omega) (by omega) r3.1 r3.2 (by decide) (by decide) (a := y1.toInt)
  have bC := own_mulb (N := 0) (M := 4294967295) (K := 4294967295) (by omega) r3.2 r4.1 r4.2 (by decide) (by decide) (a := x2.toInt)
  have e1 := Jvm.Kit.i64_mul (x := x1) (y := y2) (by omega) (by omega)
  have e2 := Jvm.Kit.i64_mul (x := x2) (y := y1) (by rw [Int.mul_comm]; omega) (by rw [Int.mul_comm]; omega)
  have e3 : (((x2 * y2).toUInt64 >>> ((32 : Int32) &&& 0x3f).toInt64.toUInt64).toInt64).toInt = (x2 * y2).toInt % 18446744073709551616 / 4294967296 := c_lushr (x2 * y2) 32 32 (by decide) (by decide)
  have e4 : (x2 * y2).toInt % 18446744073709551616 = x2.toInt * y2.toInt := by
    rw [Int64.toInt_mul]
    have := (Int.bmod_emod : (x2.toInt * y2.toInt).bmod (2 ^ 64) % ((2 ^ 64 : Nat) : Int) = (x2.toInt * y2.toInt) % ((2 ^ 64 : Nat) : Int))
    have q : ((2 ^ 64 : Nat) : Int) = 18446744073709551616 := rfl
    rw [q] at this
    rw [this, Int.emod_eq_of_lt (by omega) (by omega)]
  rw [e4] at e3
  generalize ((x2 * y2).toUInt64 >>> ((32 : Int32) &&& 0x3f).toInt64.toUInt64).toInt64 = q at *
  have e5 := Jvm.Kit.i64_add (x := x1 * y2) (y := q) (by rw [e1, e3]; omega) (by rw [e1, e3]; omega)
  generalize ht : x1 * y2 + q = t at *
  have e6 : (t >>> ((32 : Int32) &&& 0x3f).toInt64).toInt = t.toInt / 4294967296 := c_lshr t 32 32 (by decide)
  have e7 : (t &&& (4294967295 : Int64)).toInt = t.toInt % 4294967296 := Jvm.Kit.i64_mask t _ (k := 32) (by decide) (by decide)
  generalize t >>> ((32 : Int32) &&& 0x3f).toInt64 = z0 at *
  generalize t &&& (4294967295 : Int64) = z1 at *
  have cB : y1.toInt * x2.toInt = x2.toInt * y1.toInt := Int.mul_comm _ _
  have e8 := Jvm.Kit.i64_add (x := z1) (y := x2 * y1) (by rw [e2]; omega) (by rw [e2]; omega)
  generalize z1 + x2 * y1 = w at *
  have e9 : (w >>> ((32 : Int32) &&& 0x3f).toInt64).toInt = w.toInt / 4294967296 := c_lshr w 32 32 (by decide)
  generalize w >>> ((32 : Int32) &&& 0x3f).toInt64 = w1 at *
  have xy : x.toInt * y.toInt = (x1.toInt * y1.toInt) * 18446744073709551616 + (x1.toInt * y2.toInt + x2.toInt * y1.toInt) * 4294967296 + x2.toInt * y2.toInt := by
    rw [ex, ey]
    generalize x1.toInt = a; generalize y1.toInt = b; generalize x2.toInt = c; generalize y2.toInt = d
    have f1 : a * 4294967296 * (b * 4294967296) = a * b * 18446744073709551616 := by
      rw [Int.mul_assoc, Int.mul_left_comm 4294967296 b, ← Int.mul_assoc]; exact congrArg (fun z => a * b * z) (by decide)
    have f2 : a * 4294967296 * d = a * d * 4294967296 := by rw [Int.mul_assoc, Int.mul_comm 4294967296 d]; exact (Int.mul_assoc _ _ _).symm
    have f3 : c * (b * 4294967296) = c * b * 4294967296 := (Int.mul_assoc _ _ _).symm
    rw [Int.add_mul, Int.mul_add, Int.mul_add, f1, f2, f3]; omega
  have tot : x.toInt * y.toInt / 18446744073709551616 = x1.toInt * y1.toInt + z0.toInt + w1.toInt := by rw [xy]; omega
  have dd := own_mulb2 r1.1 r1.2 r2.1 r2.2
  have e10 := Jvm.Kit.i64_mul (x := x1) (y := y1) (by omega) (by omega)
  have e11 := Jvm.Kit.i64_add (x := x1 * y1) (y := z0) (by rw [e10]; omega) (by rw [e10]; omega)
  rw [Jvm.Kit.i64_add (by rw [e11, e10]; omega) (by rw [e11, e10]; omega), e11, e10, tot]
theorem own_cmp_sg (x y : Int64) : (x.toInt < y.toInt → own_cmp x y < 0) ∧ (y.toInt < x.toInt → 0 < own_cmp x y) ∧ (own_cmp x y = 0 → x.toInt = y.toInt) := by
  unfold own_cmp
  simp only [Int64.lt_iff_toInt_lt]
  refine ⟨fun h => ?_, fun h => ?_, fun h => ?_⟩
  · rw [if_pos h]; decide
  · rw [if_neg (by omega), if_neg (fun q => by rw [q] at h; omega)]; decide
  · by_cases q : x.toInt < y.toInt
    · rw [if_pos q] at h; exact absurd h (by decide)
    · rw [if_neg q] at h
      by_cases r : x = y
      · rw [r]
      · rw [if_neg r] at h; exact absurd h (by decide)
theorem own_min (x : Int64) : (x + (-9223372036854775808 : Int64)).toInt = x.toInt % 18446744073709551616 - 9223372036854775808 := by
  have h1 := Int64.toInt_lt x; have h2 := Int64.le_toInt x
  rw [Int64.toInt_add, show (-9223372036854775808 : Int64).toInt = -9223372036854775808 from rfl]
  have q : ((2 ^ 64 : Nat) : Int) = 18446744073709551616 := rfl
  rw [Int.bmod_def]
  omega
theorem own_mulm (x y : Int64) : (x * y).toInt % 18446744073709551616 = x.toInt * y.toInt % 18446744073709551616 := by
  rw [Int64.toInt_mul]
  exact (Int.bmod_emod : (x.toInt * y.toInt).bmod (2 ^ 64) % ((2 ^ 64 : Nat) : Int) = (x.toInt * y.toInt) % ((2 ^ 64 : Nat) : Int))
theorem own_cp1 {h1 h2 : Int64} {A B : Int} (e1 : h1.toInt = A / 18446744073709551616) (e2 : h2.toInt = B / 18446744073709551616) (hn : ¬ own_cmp h1 h2 = 0) : (B < A → 0 < own_cmp h1 h2) ∧ (A < B → own_cmp h1 h2 < 0) := by
  have s := own_cmp_sg h1 h2
  have hne : h1.toInt ≠ h2.toInt := fun q => hn (by unfold own_cmp; rw [Int64.toInt_inj.mp q, if_neg Int64.lt_irrefl, if_pos rfl])
  refine ⟨fun q => s.2.1 ?_, fun q => s.1 ?_⟩ <;> omega
theorem own_cp2 {h1 h2 a b c d : Int64} (e1 : h1.toInt = a.toInt * b.toInt / 18446744073709551616) (e2 : h2.toInt = c.toInt * d.toInt / 18446744073709551616) (hn : own_cmp h1 h2 = 0) : (c.toInt * d.toInt < a.toInt * b.toInt → 0 < own_cmp (a * b + (-9223372036854775808 : Int64)) (c * d + (-9223372036854775808 : Int64))) ∧ (a.toInt * b.toInt < c.toInt * d.toInt → own_cmp (a * b + (-9223372036854775808 : Int64)) (c * d + (-9223372036854775808 : Int64)) < 0) := by
  have s := own_cmp_sg (a * b + (-9223372036854775808 : Int64)) (c * d + (-9223372036854775808 : Int64))
  have he := (own_cmp_sg h1 h2).2.2 hn
  have m1 := own_mulm a b; have m2 := own_mulm c d
  have n1 := own_min (a * b); have n2 := own_min (c * d)
  generalize a.toInt * b.toInt = A at *
  generalize c.toInt * d.toInt = B at *
  refine ⟨fun q => s.2.1 ?_, fun q => s.1 ?_⟩ <;> omega
/-- cross products of two reduced fractions over one denominator -/
theorem own_cross {n1 d1 g1 n2 d2 g2 N1 N2 D : Int} (p1 : 0 < g1) (p2 : 0 < g2) (hD : 0 < D) (a1 : n1 * g1 = N1) (a2 : d1 * g1 = D) (b1 : n2 * g2 = N2) (b2 : d2 * g2 = D) (h : N1 < N2) : n1 * d2 < n2 * d1 := by
  have hg : 0 < g1 * g2 := Int.mul_pos p1 p2
  have e1 : (n1 * d2) * (g1 * g2) = N1 * D := by
    rw [← a1, ← b2]; simp only [Int.mul_assoc, Int.mul_left_comm, Int.mul_comm]
  have e2 : (n2 * d1) * (g1 * g2) = N2 * D := by
    rw [← b1, ← a2]; simp only [Int.mul_assoc, Int.mul_left_comm, Int.mul_comm]
  have e3 : (n1 * d2) * (g1 * g2) < (n2 * d1) * (g1 * g2) := by rw [e1, e2]; exact Int.mul_lt_mul_of_pos_right h hD
  exact Int.lt_of_mul_lt_mul_right e3 (Int.le_of_lt hg)
theorem own_den (d : Int32) : 0 < ((d &&& (2147483647 : Int32)).toInt64 + (1 : Int64)).toInt := by
  have h := Jvm.Kit.i32_mask d 2147483647 (k := 31) (by decide) (by decide)
  have e1 : (1 : Int64).toInt = 1 := rfl
  have e2 : (d &&& (2147483647 : Int32)).toInt64.toInt = (d &&& (2147483647 : Int32)).toInt := Jvm.Kit.i64_of_i32 _
  rw [Jvm.Kit.i64_add (by omega) (by omega)]; omega
theorem own_up (n u : Int32) : n.toInt64.toInt < ((n.toInt64 + (1 : Int64)) + (u &&& (65535 : Int32)).toInt64).toInt := by
  have h := Jvm.Kit.i32_mask u 65535 (k := 16) (by decide) (by decide)
  have e1 : (1 : Int64).toInt = 1 := rfl
  have e2 : (u &&& (65535 : Int32)).toInt64.toInt = (u &&& (65535 : Int32)).toInt := Jvm.Kit.i64_of_i32 _
  have e3 := Jvm.Kit.i64_of_i32 n
  have l1 := Int32.toInt_lt n; have l2 := Int32.le_toInt n
  have e4 := Jvm.Kit.i64_add (x := n.toInt64) (y := 1) (by omega) (by omega)
  rw [Jvm.Kit.i64_add (by omega) (by omega)]; omega
theorem own_dn (n w : Int32) : ((n.toInt64 - (1 : Int64)) - (w &&& (65535 : Int32)).toInt64).toInt < n.toInt64.toInt := by
  have h := Jvm.Kit.i32_mask w 65535 (k := 16) (by decide) (by decide)
  have e1 : (1 : Int64).toInt = 1 := rfl
  have e2 : (w &&& (65535 : Int32)).toInt64.toInt = (w &&& (65535 : Int32)).toInt := Jvm.Kit.i64_of_i32 _
  have e3 := Jvm.Kit.i64_of_i32 n
  have l1 := Int32.toInt_lt n; have l2 := Int32.le_toInt n
  have e4 := Jvm.Kit.i64_sub (x := n.toInt64) (y := 1) (by omega) (by omega)
  rw [Jvm.Kit.i64_sub (by omega) (by omega)]; omega
theorem own_ordv {s : State} {args : Array Value} {t : Jvm.Term} {a : Addr} {o : Int32} (e : t.eval args s none [] s = s.fieldOf? a "java/lang/Enum" "ordinal" "I") (h : (Jvm.Cond.eq t (Jvm.Term.int o)).value args s none s [] = some true) : Fld s s.heap a "java/lang/Enum" "ordinal" "I" (.int o) := by
  obtain ⟨x, y, h1, h2, k1, k2⟩ := cmp_v (Or.inl h)
  cases h2
  cases x <;> first | (obtain ⟨z, hz⟩ := k2; cases hz; done) | skip
  rename_i z
  have q := gotT (Jvm.RoadKit.own_eqI h1 rfl) h
  subst q
  exact Fld.start (e ▸ h1)
theorem wd_0 {a0 : Array Value} {Z : State} (hw : ∀ d ∈ tables_1, d.before a0 Z = true) : (Jvm.Cond.methodLink "com/example/flicker/flicker/game/RelationBoundsBelowPinLaw" (7 : Nat) ({ cls := "com/example/flicker/flicker/game/RelationBoundsBelowPinLaw", name := "pick", desc := "(I)Lcom/example/flicker/flicker/game/Relation;" } : Jvm.MethodName)).before a0 Z = true := hw _ (List.mem_of_getElem? (i := 0) rfl)
theorem wd_1 {a0 : Array Value} {Z : State} (hw : ∀ d ∈ tables_1, d.before a0 Z = true) : (Jvm.Cond.static ({ cls := "com/example/flicker/flicker/game/RelationBoundsBelowPinLaw", name := "pick", desc := "(I)Lcom/example/flicker/flicker/game/Relation;" } : Jvm.MethodName)).before a0 Z = true := hw _ (List.mem_of_getElem? (i := 1) rfl)
theorem wd_2 {a0 : Array Value} {Z : State} (hw : ∀ d ∈ tables_1, d.before a0 Z = true) : (Jvm.Cond.initialized "com/example/flicker/flicker/game/RelationBoundsBelowPinLaw").before a0 Z = true := hw _ (List.mem_of_getElem? (i := 2) rfl)
theorem wd_3 {a0 : Array Value} {Z : State} (hw : ∀ d ∈ tables_1, d.before a0 Z = true) : (Jvm.Cond.code ({ cls := "com/example/flicker/flicker/game/RelationBoundsBelowPinLaw", name := "pick", desc := "(I)Lcom/example/flicker/flicker/game/Relation;" } : Jvm.MethodName) method_3_code (1 : Nat) (Option.some (Jvm.ClassFile.FieldType.object "com/example/flicker/flicker/game/Relation"))).before a0 Z = true := hw _ (List.mem_of_getElem? (i := 3) rfl)
theorem wd_4 {a0 : Array Value} {Z : State} (hw : ∀ d ∈ tables_1, d.before a0 Z = true) : (Jvm.Cond.fieldLink "com/example/flicker/flicker/game/RelationBoundsBelowPinLaw" (30 : Nat) "com/example/flicker/flicker/game/Relation" "AT_LEAST" "Lcom/example/flicker/flicker/game/Relation;").before a0 Z = true := hw _ (List.mem_of_getElem? (i := 4) rfl)
theorem wd_5 {a0 : Array Value} {Z : State} (hw : ∀ d ∈ tables_1, d.before a0 Z = true) : (Jvm.Cond.initialized "com/example/flicker/flicker/game/Relation").before a0 Z = true := hw _ (List.mem_of_getElem? (i := 5) rfl)
theorem wd_6 {a0 : Array Value} {Z : State} (hw : ∀ d ∈ tables_1, d.before a0 Z = true) : (Jvm.Cond.laysStatic "com/example/flicker/flicker/game/Relation" "AT_LEAST" "Lcom/example/flicker/flicker/game/Relation;").before a0 Z = true := hw _ (List.mem_of_getElem? (i := 6) rfl)
theorem wd_7 {a0 : Array Value} {Z : State} (hw : ∀ d ∈ tables_1, d.before a0 Z = true) : (Jvm.Cond.constant "com/example/flicker/flicker/game/RelationBoundsBelowPinLaw" (13 : Nat) (2147483647 : Int32)).before a0 Z = true := hw _ (List.mem_of_getElem? (i := 7) rfl)
theorem wd_8 {a0 : Array Value} {Z : State} (hw : ∀ d ∈ tables_1, d.before a0 Z = true) : (Jvm.Cond.classLink "com/example/flicker/flicker/game/RelationBoundsBelowPinLaw" (14 : Nat) "com/example/flicker/flicker/game/Rational").before a0 Z = true := hw _ (List.mem_of_getElem? (i := 8) rfl)
theorem wd_9 {a0 : Array Value} {Z : State} (hw : ∀ d ∈ tables_1, d.before a0 Z = true) : (Jvm.Cond.instantiable "com/example/flicker/flicker/game/Rational" (2 : Nat)).before a0 Z = true := hw _ (List.mem_of_getElem? (i := 9) rfl)
theorem wd_10 {a0 : Array Value} {Z : State} (hw : ∀ d ∈ tables_1, d.before a0 Z = true) : (Jvm.Cond.initialized "com/example/flicker/flicker/game/Rational").before a0 Z = true := hw _ (List.mem_of_getElem? (i := 10) rfl)
theorem wd_11 {a0 : Array Value} {Z : State} (hw : ∀ d ∈ tables_1, d.before a0 Z = true) : (Jvm.Cond.methodLink "com/example/flicker/flicker/game/RelationBoundsBelowPinLaw" (16 : Nat) ({ cls := "com/example/flicker/flicker/game/Rational", name := "<init>", desc := "(JJ)V" } : Jvm.MethodName)).before a0 Z = true := hw _ (List.mem_of_getElem? (i := 11) rfl)
theorem wd_12 {a0 : Array Value} {Z : State} (hw : ∀ d ∈ tables_1, d.before a0 Z = true) : (Jvm.Cond.instanceMethod ({ cls := "com/example/flicker/flicker/game/Rational", name := "<init>", desc := "(JJ)V" } : Jvm.MethodName)).before a0 Z = true := hw _ (List.mem_of_getElem? (i := 12) rfl)
theorem wd_13 {a0 : Array Value} {Z : State} (hw : ∀ d ∈ tables_1, d.before a0 Z = true) : (Jvm.Cond.code ({ cls := "com/example/flicker/flicker/game/Rational", name := "<init>", desc := "(JJ)V" } : Jvm.MethodName) prog_17_method_1_code (7 : Nat) (Option.none : Option Jvm.ClassFile.FieldType)).before a0 Z = true := hw _ (List.mem_of_getElem? (i := 13) rfl)
theorem wd_14 {a0 : Array Value} {Z : State} (hw : ∀ d ∈ tables_1, d.before a0 Z = true) : (Jvm.Cond.methodLink "com/example/flicker/flicker/game/Rational" (1 : Nat) ({ cls := "java/lang/Record", name := "<init>", desc := "()V" } : Jvm.MethodName)).before a0 Z = true := hw _ (List.mem_of_getElem? (i := 14) rfl)
theorem wd_15 {a0 : Array Value} {Z : State} (hw : ∀ d ∈ tables_1, d.before a0 Z = true) : (Jvm.Cond.instanceMethod ({ cls := "java/lang/Record", name := "<init>", desc := "()V" } : Jvm.MethodName)).before a0 Z = true := hw _ (List.mem_of_getElem? (i := 15) rfl)
theorem wd_17 {a0 : Array Value} {Z : State} (hw : ∀ d ∈ tables_1, d.before a0 Z = true) : (Jvm.Cond.initialized "java/lang/Record").before a0 Z = true := hw _ (List.mem_of_getElem? (i := 17) rfl)
theorem wd_18 {a0 : Array Value} {Z : State} (hw : ∀ d ∈ tables_1, d.before a0 Z = true) : (Jvm.Cond.code ({ cls := "java/lang/Record", name := "<init>", desc := "()V" } : Jvm.MethodName) jdk_30_method_1_code (1 : Nat) (Option.none : Option Jvm.ClassFile.FieldType)).before a0 Z = true := hw _ (List.mem_of_getElem? (i := 18) rfl)
theorem wd_19 {a0 : Array Value} {Z : State} (hw : ∀ d ∈ tables_1, d.before a0 Z = true) : (Jvm.Cond.methodLink "java/lang/Record" (1 : Nat) ({ cls := "java/lang/Object", name := "<init>", desc := "()V" } : Jvm.MethodName)).before a0 Z = true := hw _ (List.mem_of_getElem? (i := 19) rfl)
theorem wd_20 {a0 : Array Value} {Z : State} (hw : ∀ d ∈ tables_1, d.before a0 Z = true) : (Jvm.Cond.instanceMethod ({ cls := "java/lang/Object", name := "<init>", desc := "()V" } : Jvm.MethodName)).before a0 Z = true := hw _ (List.mem_of_getElem? (i := 20) rfl)
theorem wd_21 {a0 : Array Value} {Z : State} (hw : ∀ d ∈ tables_1, d.before a0 Z = true) : (Jvm.Cond.code ({ cls := "java/lang/Object", name := "<init>", desc := "()V" } : Jvm.MethodName) object_method_1_code (1 : Nat) (Option.none : Option Jvm.ClassFile.FieldType)).before a0 Z = true := hw _ (List.mem_of_getElem? (i := 21) rfl)
theorem wd_22 {a0 : Array Value} {Z : State} (hw : ∀ d ∈ tables_1, d.before a0 Z = true) : (Jvm.Cond.methodLink "com/example/flicker/flicker/game/Rational" (16 : Nat) ({ cls := "com/example/flicker/flicker/game/Rational", name := "gcd", desc := "(JJ)J" } : Jvm.MethodName)).before a0 Z = true := hw _ (List.mem_of_getElem? (i := 22) rfl)
theorem wd_23 {a0 : Array Value} {Z : State} (hw : ∀ d ∈ tables_1, d.before a0 Z = true) : (Jvm.Cond.static ({ cls := "com/example/flicker/flicker/game/Rational", name := "gcd", desc := "(JJ)J" } : Jvm.MethodName)).before a0 Z = true := hw _ (List.mem_of_getElem? (i := 23) rfl)
theorem wd_24 {a0 : Array Value} {Z : State} (hw : ∀ d ∈ tables_1, d.before a0 Z = true) : (Jvm.Cond.code ({ cls := "com/example/flicker/flicker/game/Rational", name := "gcd", desc := "(JJ)J" } : Jvm.MethodName) prog_17_method_7_code (10 : Nat) (Option.some Jvm.ClassFile.FieldType.long)).before a0 Z = true := hw _ (List.mem_of_getElem? (i := 24) rfl)
theorem wd_25 {a0 : Array Value} {Z : State} (hw : ∀ d ∈ tables_1, d.before a0 Z = true) : (Jvm.Cond.methodLink "com/example/flicker/flicker/game/Rational" (105 : Nat) ({ cls := "java/lang/Math", name := "abs", desc := "(J)J" } : Jvm.MethodName)).before a0 Z = true := hw _ (List.mem_of_getElem? (i := 25) rfl)
theorem wd_26 {a0 : Array Value} {Z : State} (hw : ∀ d ∈ tables_1, d.before a0 Z = true) : (Jvm.Cond.static ({ cls := "java/lang/Math", name := "abs", desc := "(J)J" } : Jvm.MethodName)).before a0 Z = true := hw _ (List.mem_of_getElem? (i := 26) rfl)
theorem wd_27 {a0 : Array Value} {Z : State} (hw : ∀ d ∈ tables_1, d.before a0 Z = true) : (Jvm.Cond.initialized "java/lang/Math").before a0 Z = true := hw _ (List.mem_of_getElem? (i := 27) rfl)
theorem wd_28 {a0 : Array Value} {Z : State} (hw : ∀ d ∈ tables_1, d.before a0 Z = true) : (Jvm.Cond.code ({ cls := "java/lang/Math", name := "abs", desc := "(J)J" } : Jvm.MethodName) jdk_29_method_61_code (2 : Nat) (Option.some Jvm.ClassFile.FieldType.long)).before a0 Z = true := hw _ (List.mem_of_getElem? (i := 28) rfl)
theorem wd_29 {a0 : Array Value} {Z : State} (hw : ∀ d ∈ tables_1, d.before a0 Z = true) : (Jvm.Cond.fieldLink "com/example/flicker/flicker/game/Rational" (22 : Nat) "com/example/flicker/flicker/game/Rational" "numerator" "J").before a0 Z = true := hw _ (List.mem_of_getElem? (i := 29) rfl)
theorem wd_30 {a0 : Array Value} {Z : State} (hw : ∀ d ∈ tables_1, d.before a0 Z = true) : (Jvm.Cond.laysFinal "com/example/flicker/flicker/game/Rational" "com/example/flicker/flicker/game/Rational" "numerator" "J").before a0 Z = true := hw _ (List.mem_of_getElem? (i := 30) rfl)
theorem wd_31 {a0 : Array Value} {Z : State} (hw : ∀ d ∈ tables_1, d.before a0 Z = true) : (Jvm.Cond.fieldLink "com/example/flicker/flicker/game/Rational" (26 : Nat) "com/example/flicker/flicker/game/Rational" "denominator" "J").before a0 Z = true := hw _ (List.mem_of_getElem? (i := 31) rfl)
theorem wd_32 {a0 : Array Value} {Z : State} (hw : ∀ d ∈ tables_1, d.before a0 Z = true) : (Jvm.Cond.laysFinal "com/example/flicker/flicker/game/Rational" "com/example/flicker/flicker/game/Rational" "denominator" "J").before a0 Z = true := hw _ (List.mem_of_getElem? (i := 32) rfl)
theorem wd_33 {a0 : Array Value} {Z : State} (hw : ∀ d ∈ tables_1, d.before a0 Z = true) : (Jvm.Cond.constant "com/example/flicker/flicker/game/RelationBoundsBelowPinLaw" (19 : Nat) (65535 : Int32)).before a0 Z = true := hw _ (List.mem_of_getElem? (i := 33) rfl)
theorem wd_34 {a0 : Array Value} {Z : State} (hw : ∀ d ∈ tables_1, d.before a0 Z = true) : (Jvm.Cond.methodLink "com/example/flicker/flicker/game/RelationBoundsBelowPinLaw" (20 : Nat) ({ cls := "com/example/flicker/flicker/game/Relation", name := "boundsBelow", desc := "()Z" } : Jvm.MethodName)).before a0 Z = true := hw _ (List.mem_of_getElem? (i := 34) rfl)
theorem wd_35 {a0 : Array Value} {Z : State} (hw : ∀ d ∈ tables_1, d.before a0 Z = true) : (Jvm.Cond.declares ({ cls := "com/example/flicker/flicker/game/Relation", name := "boundsBelow", desc := "()Z" } : Jvm.MethodName)).before a0 Z = true := hw _ (List.mem_of_getElem? (i := 35) rfl)
theorem wd_36 {a0 : Array Value} {Z : State} (hw : ∀ d ∈ tables_1, d.before a0 Z = true) : (Jvm.Cond.instanceMethod ({ cls := "com/example/flicker/flicker/game/Relation", name := "boundsBelow", desc := "()Z" } : Jvm.MethodName)).before a0 Z = true := hw _ (List.mem_of_getElem? (i := 36) rfl)
theorem wd_37 {a0 : Array Value} {Z : State} (hw : ∀ d ∈ tables_1, d.before a0 Z = true) : (Jvm.Cond.selects "com/example/flicker/flicker/game/Relation" ({ cls := "com/example/flicker/flicker/game/Relation", name := "boundsBelow", desc := "()Z" } : Jvm.MethodName) ({ cls := "com/example/flicker/flicker/game/Relation", name := "boundsBelow", desc := "()Z" } : Jvm.MethodName)).before a0 Z = true := hw _ (List.mem_of_getElem? (i := 37) rfl)
theorem wd_38 {a0 : Array Value} {Z : State} (hw : ∀ d ∈ tables_1, d.before a0 Z = true) : (Jvm.Cond.code ({ cls := "com/example/flicker/flicker/game/Relation", name := "boundsBelow", desc := "()Z" } : Jvm.MethodName) prog_18_method_5_code (1 : Nat) (Option.some Jvm.ClassFile.FieldType.boolean)).before a0 Z = true := hw _ (List.mem_of_getElem? (i := 38) rfl)
theorem wd_39 {a0 : Array Value} {Z : State} (hw : ∀ d ∈ tables_1, d.before a0 Z = true) : (Jvm.Cond.fieldLink "com/example/flicker/flicker/game/Relation" (3 : Nat) "com/example/flicker/flicker/game/Relation" "AT_LEAST" "Lcom/example/flicker/flicker/game/Relation;").before a0 Z = true := hw _ (List.mem_of_getElem? (i := 39) rfl)
theorem wd_40 {a0 : Array Value} {Z : State} (hw : ∀ d ∈ tables_1, d.before a0 Z = true) : (Jvm.Cond.methodLink "com/example/flicker/flicker/game/RelationBoundsBelowPinLaw" (26 : Nat) ({ cls := "com/example/flicker/flicker/game/Relation", name := "holds", desc := "(Lcom/example/flicker/flicker/game/Rational;Lcom/example/flicker/flicker/game/Rational;)Z" } : Jvm.MethodName)).before a0 Z = true := hw _ (List.mem_of_getElem? (i := 40) rfl)
theorem wd_41 {a0 : Array Value} {Z : State} (hw : ∀ d ∈ tables_1, d.before a0 Z = true) : (Jvm.Cond.declares ({ cls := "com/example/flicker/flicker/game/Relation", name := "holds", desc := "(Lcom/example/flicker/flicker/game/Rational;Lcom/example/flicker/flicker/game/Rational;)Z" } : Jvm.MethodName)).before a0 Z = true := hw _ (List.mem_of_getElem? (i := 41) rfl)
theorem wd_42 {a0 : Array Value} {Z : State} (hw : ∀ d ∈ tables_1, d.before a0 Z = true) : (Jvm.Cond.instanceMethod ({ cls := "com/example/flicker/flicker/game/Relation", name := "holds", desc := "(Lcom/example/flicker/flicker/game/Rational;Lcom/example/flicker/flicker/game/Rational;)Z" } : Jvm.MethodName)).before a0 Z = true := hw _ (List.mem_of_getElem? (i := 42) rfl)
theorem wd_43 {a0 : Array Value} {Z : State} (hw : ∀ d ∈ tables_1, d.before a0 Z = true) : (Jvm.Cond.selects "com/example/flicker/flicker/game/Relation" ({ cls := "com/example/flicker/flicker/game/Relation", name := "holds", desc := "(Lcom/example/flicker/flicker/game/Rational;Lcom/example/flicker/flicker/game/Rational;)Z" } : Jvm.MethodName) ({ cls := "com/example/flicker/flicker/game/Relation", name := "holds", desc := "(Lcom/example/flicker/flicker/game/Rational;Lcom/example/flicker/flicker/game/Rational;)Z" } : Jvm.MethodName)).before a0 Z = true := hw _ (List.mem_of_getElem? (i := 43) rfl)
theorem wd_44 {a0 : Array Value} {Z : State} (hw : ∀ d ∈ tables_1, d.before a0 Z = true) : (Jvm.Cond.code ({ cls := "com/example/flicker/flicker/game/Relation", name := "holds", desc := "(Lcom/example/flicker/flicker/game/Rational;Lcom/example/flicker/flicker/game/Rational;)Z" } : Jvm.MethodName) prog_18_method_6_code (5 : Nat) (Option.some Jvm.ClassFile.FieldType.boolean)).before a0 Z = true := hw _ (List.mem_of_getElem? (i := 44) rfl)
theorem wd_45 {a0 : Array Value} {Z : State} (hw : ∀ d ∈ tables_1, d.before a0 Z = true) : (Jvm.Cond.methodLink "com/example/flicker/flicker/game/Relation" (39 : Nat) ({ cls := "com/example/flicker/flicker/game/Rational", name := "compareTo", desc := "(Lcom/example/flicker/flicker/game/Rational;)I" } : Jvm.MethodName)).before a0 Z = true := hw _ (List.mem_of_getElem? (i := 45) rfl)
theorem wd_46 {a0 : Array Value} {Z : State} (hw : ∀ d ∈ tables_1, d.before a0 Z = true) : (Jvm.Cond.declares ({ cls := "com/example/flicker/flicker/game/Rational", name := "compareTo", desc := "(Lcom/example/flicker/flicker/game/Rational;)I" } : Jvm.MethodName)).before a0 Z = true := hw _ (List.mem_of_getElem? (i := 46) rfl)
theorem wd_47 {a0 : Array Value} {Z : State} (hw : ∀ d ∈ tables_1, d.before a0 Z = true) : (Jvm.Cond.instanceMethod ({ cls := "com/example/flicker/flicker/game/Rational", name := "compareTo", desc := "(Lcom/example/flicker/flicker/game/Rational;)I" } : Jvm.MethodName)).before a0 Z = true := hw _ (List.mem_of_getElem? (i := 47) rfl)
theorem wd_48 {a0 : Array Value} {Z : State} (hw : ∀ d ∈ tables_1, d.before a0 Z = true) : (Jvm.Cond.selects "com/example/flicker/flicker/game/Rational" ({ cls := "com/example/flicker/flicker/game/Rational", name := "compareTo", desc := "(Lcom/example/flicker/flicker/game/Rational;)I" } : Jvm.MethodName) ({ cls := "com/example/flicker/flicker/game/Rational", name := "compareTo", desc := "(Lcom/example/flicker/flicker/game/Rational;)I" } : Jvm.MethodName)).before a0 Z = true := hw _ (List.mem_of_getElem? (i := 48) rfl)
theorem wd_49 {a0 : Array Value} {Z : State} (hw : ∀ d ∈ tables_1, d.before a0 Z = true) : (Jvm.Cond.code ({ cls := "com/example/flicker/flicker/game/Rational", name := "compareTo", desc := "(Lcom/example/flicker/flicker/game/Rational;)I" } : Jvm.MethodName) prog_17_method_3_code (2 : Nat) (Option.some Jvm.ClassFile.FieldType.int)).before a0 Z = true := hw _ (List.mem_of_getElem? (i := 49) rfl)
theorem wd_50 {a0 : Array Value} {Z : State} (hw : ∀ d ∈ tables_1, d.before a0 Z = true) : (Jvm.Cond.methodLink "com/example/flicker/flicker/game/Rational" (77 : Nat) ({ cls := "com/example/flicker/flicker/game/Rational", name := "compareProducts", desc := "(JJJJ)I" } : Jvm.MethodName)).before a0 Z = true := hw _ (List.mem_of_getElem? (i := 50) rfl)
theorem wd_51 {a0 : Array Value} {Z : State} (hw : ∀ d ∈ tables_1, d.before a0 Z = true) : (Jvm.Cond.static ({ cls := "com/example/flicker/flicker/game/Rational", name := "compareProducts", desc := "(JJJJ)I" } : Jvm.MethodName)).before a0 Z = true := hw _ (List.mem_of_getElem? (i := 51) rfl)
theorem wd_52 {a0 : Array Value} {Z : State} (hw : ∀ d ∈ tables_1, d.before a0 Z = true) : (Jvm.Cond.code ({ cls := "com/example/flicker/flicker/game/Rational", name := "compareProducts", desc := "(JJJJ)I" } : Jvm.MethodName) prog_17_method_6_code (9 : Nat) (Option.some Jvm.ClassFile.FieldType.int)).before a0 Z = true := hw _ (List.mem_of_getElem? (i := 52) rfl)
theorem wd_53 {a0 : Array Value} {Z : State} (hw : ∀ d ∈ tables_1, d.before a0 Z = true) : (Jvm.Cond.methodLink "com/example/flicker/flicker/game/Rational" (93 : Nat) ({ cls := "java/lang/Math", name := "multiplyHigh", desc := "(JJ)J" } : Jvm.MethodName)).before a0 Z = true := hw _ (List.mem_of_getElem? (i := 53) rfl)
theorem wd_54 {a0 : Array Value} {Z : State} (hw : ∀ d ∈ tables_1, d.before a0 Z = true) : (Jvm.Cond.static ({ cls := "java/lang/Math", name := "multiplyHigh", desc := "(JJ)J" } : Jvm.MethodName)).before a0 Z = true := hw _ (List.mem_of_getElem? (i := 54) rfl)
theorem wd_55 {a0 : Array Value} {Z : State} (hw : ∀ d ∈ tables_1, d.before a0 Z = true) : (Jvm.Cond.code ({ cls := "java/lang/Math", name := "multiplyHigh", desc := "(JJ)J" } : Jvm.MethodName) jdk_29_method_45_code (20 : Nat) (Option.some Jvm.ClassFile.FieldType.long)).before a0 Z = true := hw _ (List.mem_of_getElem? (i := 55) rfl)
theorem wd_56 {a0 : Array Value} {Z : State} (hw : ∀ d ∈ tables_1, d.before a0 Z = true) : (Jvm.Cond.constantLong "java/lang/Math" (138 : Nat) (4294967295 : Int64)).before a0 Z = true := hw _ (List.mem_of_getElem? (i := 56) rfl)
theorem wd_57 {a0 : Array Value} {Z : State} (hw : ∀ d ∈ tables_1, d.before a0 Z = true) : (Jvm.Cond.methodLink "com/example/flicker/flicker/game/Rational" (98 : Nat) ({ cls := "java/lang/Long", name := "compare", desc := "(JJ)I" } : Jvm.MethodName)).before a0 Z = true := hw _ (List.mem_of_getElem? (i := 57) rfl)
theorem wd_58 {a0 : Array Value} {Z : State} (hw : ∀ d ∈ tables_1, d.before a0 Z = true) : (Jvm.Cond.static ({ cls := "java/lang/Long", name := "compare", desc := "(JJ)I" } : Jvm.MethodName)).before a0 Z = true := hw _ (List.mem_of_getElem? (i := 58) rfl)
theorem wd_59 {a0 : Array Value} {Z : State} (hw : ∀ d ∈ tables_1, d.before a0 Z = true) : (Jvm.Cond.initialized "java/lang/Long").before a0 Z = true := hw _ (List.mem_of_getElem? (i := 59) rfl)
theorem wd_60 {a0 : Array Value} {Z : State} (hw : ∀ d ∈ tables_1, d.before a0 Z = true) : (Jvm.Cond.code ({ cls := "java/lang/Long", name := "compare", desc := "(JJ)I" } : Jvm.MethodName) jdk_35_method_42_code (4 : Nat) (Option.some Jvm.ClassFile.FieldType.int)).before a0 Z = true := hw _ (List.mem_of_getElem? (i := 60) rfl)
theorem wd_61 {a0 : Array Value} {Z : State} (hw : ∀ d ∈ tables_1, d.before a0 Z = true) : (Jvm.Cond.methodLink "com/example/flicker/flicker/game/Rational" (102 : Nat) ({ cls := "java/lang/Long", name := "compareUnsigned", desc := "(JJ)I" } : Jvm.MethodName)).before a0 Z = true := hw _ (List.mem_of_getElem? (i := 61) rfl)
theorem wd_62 {a0 : Array Value} {Z : State} (hw : ∀ d ∈ tables_1, d.before a0 Z = true) : (Jvm.Cond.static ({ cls := "java/lang/Long", name := "compareUnsigned", desc := "(JJ)I" } : Jvm.MethodName)).before a0 Z = true := hw _ (List.mem_of_getElem? (i := 62) rfl)
theorem wd_63 {a0 : Array Value} {Z : State} (hw : ∀ d ∈ tables_1, d.before a0 Z = true) : (Jvm.Cond.code ({ cls := "java/lang/Long", name := "compareUnsigned", desc := "(JJ)I" } : Jvm.MethodName) jdk_35_method_43_code (4 : Nat) (Option.some Jvm.ClassFile.FieldType.int)).before a0 Z = true := hw _ (List.mem_of_getElem? (i := 63) rfl)
theorem wd_64 {a0 : Array Value} {Z : State} (hw : ∀ d ∈ tables_1, d.before a0 Z = true) : (Jvm.Cond.constantLong "java/lang/Long" (168 : Nat) (-9223372036854775808 : Int64)).before a0 Z = true := hw _ (List.mem_of_getElem? (i := 64) rfl)
theorem wd_65 {a0 : Array Value} {Z : State} (hw : ∀ d ∈ tables_1, d.before a0 Z = true) : (Jvm.Cond.methodLink "java/lang/Long" (302 : Nat) ({ cls := "java/lang/Long", name := "compare", desc := "(JJ)I" } : Jvm.MethodName)).before a0 Z = true := hw _ (List.mem_of_getElem? (i := 65) rfl)
theorem wd_66 {a0 : Array Value} {Z : State} (hw : ∀ d ∈ tables_1, d.before a0 Z = true) : (Jvm.Cond.methodLink "com/example/flicker/flicker/game/Relation" (45 : Nat) ({ cls := "com/example/flicker/flicker/game/Relation", name := "ordinal", desc := "()I" } : Jvm.MethodName)).before a0 Z = true := hw _ (List.mem_of_getElem? (i := 66) rfl)
theorem wd_67 {a0 : Array Value} {Z : State} (hw : ∀ d ∈ tables_1, d.before a0 Z = true) : (Jvm.Cond.sameMethod "com/example/flicker/flicker/game/Relation" "java/lang/Enum" "ordinal" "()I").before a0 Z = true := hw _ (List.mem_of_getElem? (i := 67) rfl)
theorem wd_68 {a0 : Array Value} {Z : State} (hw : ∀ d ∈ tables_1, d.before a0 Z = true) : (Jvm.Cond.declares ({ cls := "java/lang/Enum", name := "ordinal", desc := "()I" } : Jvm.MethodName)).before a0 Z = true := hw _ (List.mem_of_getElem? (i := 68) rfl)
theorem wd_69 {a0 : Array Value} {Z : State} (hw : ∀ d ∈ tables_1, d.before a0 Z = true) : (Jvm.Cond.instanceMethod ({ cls := "java/lang/Enum", name := "ordinal", desc := "()I" } : Jvm.MethodName)).before a0 Z = true := hw _ (List.mem_of_getElem? (i := 69) rfl)
theorem wd_70 {a0 : Array Value} {Z : State} (hw : ∀ d ∈ tables_1, d.before a0 Z = true) : (Jvm.Cond.selects "com/example/flicker/flicker/game/Relation" ({ cls := "com/example/flicker/flicker/game/Relation", name := "ordinal", desc := "()I" } : Jvm.MethodName) ({ cls := "java/lang/Enum", name := "ordinal", desc := "()I" } : Jvm.MethodName)).before a0 Z = true := hw _ (List.mem_of_getElem? (i := 70) rfl)
theorem wd_71 {a0 : Array Value} {Z : State} (hw : ∀ d ∈ tables_1, d.before a0 Z = true) : (Jvm.Cond.initialized "java/lang/Enum").before a0 Z = true := hw _ (List.mem_of_getElem? (i := 71) rfl)
theorem wd_72 {a0 : Array Value} {Z : State} (hw : ∀ d ∈ tables_1, d.before a0 Z = true) : (Jvm.Cond.code ({ cls := "java/lang/Enum", name := "ordinal", desc := "()I" } : Jvm.MethodName) jdk_37_method_2_code (1 : Nat) (Option.some Jvm.ClassFile.FieldType.int)).before a0 Z = true := hw _ (List.mem_of_getElem? (i := 72) rfl)
theorem wd_73 {a0 : Array Value} {Z : State} (hw : ∀ d ∈ tables_1, d.before a0 Z = true) : (Jvm.Cond.fieldLink "java/lang/Enum" (7 : Nat) "java/lang/Enum" "ordinal" "I").before a0 Z = true := hw _ (List.mem_of_getElem? (i := 73) rfl)
theorem wd_75 {a0 : Array Value} {Z : State} (hw : ∀ d ∈ tables_1, d.before a0 Z = true) : (Jvm.Cond.fieldLink "com/example/flicker/flicker/game/RelationBoundsBelowPinLaw" (40 : Nat) "com/example/flicker/flicker/game/Relation" "BELOW" "Lcom/example/flicker/flicker/game/Relation;").before a0 Z = true := hw _ (List.mem_of_getElem? (i := 75) rfl)
theorem wd_76 {a0 : Array Value} {Z : State} (hw : ∀ d ∈ tables_1, d.before a0 Z = true) : (Jvm.Cond.laysStatic "com/example/flicker/flicker/game/Relation" "BELOW" "Lcom/example/flicker/flicker/game/Relation;").before a0 Z = true := hw _ (List.mem_of_getElem? (i := 76) rfl)
theorem wd_77 {a0 : Array Value} {Z : State} (hw : ∀ d ∈ tables_1, d.before a0 Z = true) : (Jvm.Cond.fieldLink "com/example/flicker/flicker/game/Relation" (7 : Nat) "com/example/flicker/flicker/game/Relation" "ABOVE" "Lcom/example/flicker/flicker/game/Relation;").before a0 Z = true := hw _ (List.mem_of_getElem? (i := 77) rfl)
theorem wd_78 {a0 : Array Value} {Z : State} (hw : ∀ d ∈ tables_1, d.before a0 Z = true) : (Jvm.Cond.laysStatic "com/example/flicker/flicker/game/Relation" "ABOVE" "Lcom/example/flicker/flicker/game/Relation;").before a0 Z = true := hw _ (List.mem_of_getElem? (i := 78) rfl)
theorem wd_79 {a0 : Array Value} {Z : State} (hw : ∀ d ∈ tables_1, d.before a0 Z = true) : (Jvm.Cond.fieldLink "com/example/flicker/flicker/game/RelationBoundsBelowPinLaw" (37 : Nat) "com/example/flicker/flicker/game/Relation" "AT_MOST" "Lcom/example/flicker/flicker/game/Relation;").before a0 Z = true := hw _ (List.mem_of_getElem? (i := 79) rfl)
theorem wd_80 {a0 : Array Value} {Z : State} (hw : ∀ d ∈ tables_1, d.before a0 Z = true) : (Jvm.Cond.laysStatic "com/example/flicker/flicker/game/Relation" "AT_MOST" "Lcom/example/flicker/flicker/game/Relation;").before a0 Z = true := hw _ (List.mem_of_getElem? (i := 80) rfl)
theorem wd_81 {a0 : Array Value} {Z : State} (hw : ∀ d ∈ tables_1, d.before a0 Z = true) : (Jvm.Cond.fieldLink "com/example/flicker/flicker/game/RelationBoundsBelowPinLaw" (34 : Nat) "com/example/flicker/flicker/game/Relation" "ABOVE" "Lcom/example/flicker/flicker/game/Relation;").before a0 Z = true := hw _ (List.mem_of_getElem? (i := 81) rfl)
theorem d_0 : Dc code 0 (.iload_n 0) 1 1 := ⟨at_0, rfl⟩
theorem d_1 : Dc code 1 (.iconst 3) 1 2 := ⟨at_1, rfl⟩
theorem d_2 : Dc code 2 (.iand) 1 3 := ⟨at_2, rfl⟩
theorem d_3 : Dc code 3 (.invokestatic 7) 3 6 := ⟨at_3, rfl⟩
theorem d_6 : Dc code 6 (.astore 5) 2 8 := ⟨at_6, rfl⟩
theorem d_8 : Dc code 8 (.iload_n 2) 1 9 := ⟨at_8, rfl⟩
theorem d_9 : Dc code 9 (.ldc 13) 2 11 := ⟨at_9, rfl⟩
theorem d_11 : Dc code 11 (.iand) 1 12 := ⟨at_11, rfl⟩
theorem d_12 : Dc code 12 (.i2l) 1 13 := ⟨at_12, rfl⟩
theorem d_13 : Dc code 13 (.lconst 1) 1 14 := ⟨at_13, rfl⟩
theorem d_14 : Dc code 14 (.ladd) 1 15 := ⟨at_14, rfl⟩
theorem d_15 : Dc code 15 (.lstore 6) 2 17 := ⟨at_15, rfl⟩
theorem d_17 : Dc code 17 (.iload_n 1) 1 18 := ⟨at_17, rfl⟩
theorem d_18 : Dc code 18 (.i2l) 1 19 := ⟨at_18, rfl⟩
theorem d_19 : Dc code 19 (.lstore 8) 2 21 := ⟨at_19, rfl⟩
theorem d_21 : Dc code 21 (.new 14) 3 24 := ⟨at_21, rfl⟩
theorem d_24 : Dc code 24 (.dup) 1 25 := ⟨at_24, rfl⟩
theorem d_25 : Dc code 25 (.lload 8) 2 27 := ⟨at_25, rfl⟩
theorem d_27 : Dc code 27 (.lload 6) 2 29 := ⟨at_27, rfl⟩
theorem d_29 : Dc code 29 (.invokespecial 16) 3 32 := ⟨at_29, rfl⟩
theorem d_32 : Dc code 32 (.astore 10) 2 34 := ⟨at_32, rfl⟩
theorem d_34 : Dc code 34 (.new 14) 3 37 := ⟨at_34, rfl⟩
theorem d_37 : Dc code 37 (.dup) 1 38 := ⟨at_37, rfl⟩
theorem d_38 : Dc code 38 (.lload 8) 2 40 := ⟨at_38, rfl⟩
theorem d_40 : Dc code 40 (.lconst 1) 1 41 := ⟨at_40, rfl⟩
theorem d_41 : Dc code 41 (.ladd) 1 42 := ⟨at_41, rfl⟩
theorem d_42 : Dc code 42 (.iload_n 3) 1 43 := ⟨at_42, rfl⟩
theorem d_43 : Dc code 43 (.ldc 19) 2 45 := ⟨at_43, rfl⟩
theorem d_45 : Dc code 45 (.iand) 1 46 := ⟨at_45, rfl⟩
theorem d_46 : Dc code 46 (.i2l) 1 47 := ⟨at_46, rfl⟩
theorem d_47 : Dc code 47 (.ladd) 1 48 := ⟨at_47, rfl⟩
theorem d_48 : Dc code 48 (.lload 6) 2 50 := ⟨at_48, rfl⟩
theorem d_50 : Dc code 50 (.invokespecial 16) 3 53 := ⟨at_50, rfl⟩
theorem d_53 : Dc code 53 (.astore 11) 2 55 := ⟨at_53, rfl⟩
theorem d_55 : Dc code 55 (.new 14) 3 58 := ⟨at_55, rfl⟩
theorem d_58 : Dc code 58 (.dup) 1 59 := ⟨at_58, rfl⟩
theorem d_59 : Dc code 59 (.lload 8) 2 61 := ⟨at_59, rfl⟩
theorem d_61 : Dc code 61 (.lconst 1) 1 62 := ⟨at_61, rfl⟩
theorem d_62 : Dc code 62 (.lsub) 1 63 := ⟨at_62, rfl⟩
theorem d_63 : Dc code 63 (.iload 4) 2 65 := ⟨at_63, rfl⟩
theorem d_65 : Dc code 65 (.ldc 19) 2 67 := ⟨at_65, rfl⟩
theorem d_67 : Dc code 67 (.iand) 1 68 := ⟨at_67, rfl⟩
theorem d_68 : Dc code 68 (.i2l) 1 69 := ⟨at_68, rfl⟩
theorem d_69 : Dc code 69 (.lsub) 1 70 := ⟨at_69, rfl⟩
theorem d_70 : Dc code 70 (.lload 6) 2 72 := ⟨at_70, rfl⟩
theorem d_72 : Dc code 72 (.invokespecial 16) 3 75 := ⟨at_72, rfl⟩
theorem d_75 : Dc code 75 (.astore 12) 2 77 := ⟨at_75, rfl⟩
theorem d_77 : Dc code 77 (.aload 5) 2 79 := ⟨at_77, rfl⟩
theorem d_79 : Dc code 79 (.invokevirtual 20) 3 82 := ⟨at_79, rfl⟩
theorem d_82 : Dc code 82 (.istore 13) 2 84 := ⟨at_82, rfl⟩
theorem d_84 : Dc code 84 (.aload 5) 2 86 := ⟨at_84, rfl⟩
theorem d_86 : Dc code 86 (.aload 11) 2 88 := ⟨at_86, rfl⟩
theorem d_88 : Dc code 88 (.aload 10) 2 90 := ⟨at_88, rfl⟩
theorem d_90 : Dc code 90 (.invokevirtual 26) 3 93 := ⟨at_90, rfl⟩
theorem d_93 : Dc code 93 (.istore 14) 2 95 := ⟨at_93, rfl⟩
theorem d_95 : Dc code 95 (.aload 5) 2 97 := ⟨at_95, rfl⟩
theorem d_97 : Dc code 97 (.aload 12) 2 99 := ⟨at_97, rfl⟩
theorem d_99 : Dc code 99 (.aload 10) 2 101 := ⟨at_99, rfl⟩
theorem d_101 : Dc code 101 (.invokevirtual 26) 3 104 := ⟨at_101, rfl⟩
theorem d_104 : Dc code 104 (.istore 15) 2 106 := ⟨at_104, rfl⟩
theorem d_106 : Dc code 106 (.iload 13) 2 108 := ⟨at_106, rfl⟩
theorem d_108 : Dc code 108 (.iload 14) 2 110 := ⟨at_108, rfl⟩
theorem d_110 : Bc code 110 (.if_icmp .ne) 132 113 := ⟨22, at_110, by decide, by decide, rfl⟩
theorem d_113 : Dc code 113 (.iload 13) 2 115 := ⟨at_113, rfl⟩
theorem d_115 : Dc code 115 (.iload 15) 2 117 := ⟨at_115, rfl⟩
theorem d_117 : Bc code 117 (.ifCond .ne) 124 120 := ⟨7, at_117, by decide, by decide, rfl⟩
theorem d_120 : Dc code 120 (.iconst 1) 1 121 := ⟨at_120, rfl⟩
theorem d_121 : Bc code 121 (.goto) 125 124 := ⟨4, at_121, by decide, by decide, rfl⟩
theorem d_124 : Dc code 124 (.iconst 0) 1 125 := ⟨at_124, rfl⟩
theorem d_125 : Bc code 125 (.if_icmp .ne) 132 128 := ⟨7, at_125, by decide, by decide, rfl⟩
theorem d_128 : Dc code 128 (.iconst 1) 1 129 := ⟨at_128, rfl⟩
theorem d_129 : Bc code 129 (.goto) 133 132 := ⟨4, at_129, by decide, by decide, rfl⟩
theorem d_133 : Dc code 133 (.ireturn) 1 134 := ⟨at_133, rfl⟩
theorem djdk_29_45_0 : Dc jdk_29_method_45_code 0 (.lload_n 0) 1 1 := ⟨by decide +kernel, rfl⟩
theorem djdk_29_45_1 : Dc jdk_29_method_45_code 1 (.bipush 32) 2 3 := ⟨by decide +kernel, rfl⟩
theorem djdk_29_45_3 : Dc jdk_29_method_45_code 3 (.lshr) 1 4 := ⟨by decide +kernel, rfl⟩
theorem djdk_29_45_4 : Dc jdk_29_method_45_code 4 (.lstore 4) 2 6 := ⟨by decide +kernel, rfl⟩
theorem djdk_29_45_6 : Dc jdk_29_method_45_code 6 (.lload_n 0) 1 7 := ⟨by decide +kernel, rfl⟩
theorem djdk_29_45_7 : Dc jdk_29_method_45_code 7 (.ldc2_w 138) 3 10 := ⟨by decide +kernel, rfl⟩
theorem djdk_29_45_10 : Dc jdk_29_method_45_code 10 (.land) 1 11 := ⟨by decide +kernel, rfl⟩
theorem djdk_29_45_11 : Dc jdk_29_method_45_code 11 (.lstore 6) 2 13 := ⟨by decide +kernel, rfl⟩
theorem djdk_29_45_13 : Dc jdk_29_method_45_code 13 (.lload_n 2) 1 14 := ⟨by decide +kernel, rfl⟩
theorem djdk_29_45_14 : Dc jdk_29_method_45_code 14 (.bipush 32) 2 16 := ⟨by decide +kernel, rfl⟩
theorem djdk_29_45_16 : Dc jdk_29_method_45_code 16 (.lshr) 1 17 := ⟨by decide +kernel, rfl⟩
theorem djdk_29_45_17 : Dc jdk_29_method_45_code 17 (.lstore 8) 2 19 := ⟨by decide +kernel, rfl⟩
theorem djdk_29_45_19 : Dc jdk_29_method_45_code 19 (.lload_n 2) 1 20 := ⟨by decide +kernel, rfl⟩
theorem djdk_29_45_20 : Dc jdk_29_method_45_code 20 (.ldc2_w 138) 3 23 := ⟨by decide +kernel, rfl⟩
theorem djdk_29_45_23 : Dc jdk_29_method_45_code 23 (.land) 1 24 := ⟨by decide +kernel, rfl⟩
theorem djdk_29_45_24 : Dc jdk_29_method_45_code 24 (.lstore 10) 2 26 := ⟨by decide +kernel, rfl⟩
theorem djdk_29_45_26 : Dc jdk_29_method_45_code 26 (.lload 6) 2 28 := ⟨by decide +kernel, rfl⟩
theorem djdk_29_45_28 : Dc jdk_29_method_45_code 28 (.lload 10) 2 30 := ⟨by decide +kernel, rfl⟩
theorem djdk_29_45_30 : Dc jdk_29_method_45_code 30 (.lmul) 1 31 := ⟨by decide +kernel, rfl⟩
theorem djdk_29_45_31 : Dc jdk_29_method_45_code 31 (.lstore 12) 2 33 := ⟨by decide +kernel, rfl⟩
theorem djdk_29_45_33 : Dc jdk_29_method_45_code 33 (.lload 4) 2 35 := ⟨by decide +kernel, rfl⟩
theorem djdk_29_45_35 : Dc jdk_29_method_45_code 35 (.lload 10) 2 37 := ⟨by decide +kernel, rfl⟩
theorem djdk_29_45_37 : Dc jdk_29_method_45_code 37 (.lmul) 1 38 := ⟨by decide +kernel, rfl⟩
theorem djdk_29_45_38 : Dc jdk_29_method_45_code 38 (.lload 12) 2 40 := ⟨by decide +kernel, rfl⟩
theorem djdk_29_45_40 : Dc jdk_29_method_45_code 40 (.bipush 32) 2 42 := ⟨by decide +kernel, rfl⟩
theorem djdk_29_45_42 : Dc jdk_29_method_45_code 42 (.lushr) 1 43 := ⟨by decide +kernel, rfl⟩
theorem djdk_29_45_43 : Dc jdk_29_method_45_code 43 (.ladd) 1 44 := ⟨by decide +kernel, rfl⟩
theorem djdk_29_45_44 : Dc jdk_29_method_45_code 44 (.lstore 14) 2 46 := ⟨by decide +kernel, rfl⟩
theorem djdk_29_45_46 : Dc jdk_29_method_45_code 46 (.lload 14) 2 48 := ⟨by decide +kernel, rfl⟩
theorem djdk_29_45_48 : Dc jdk_29_method_45_code 48 (.ldc2_w 138) 3 51 := ⟨by decide +kernel, rfl⟩
theorem djdk_29_45_51 : Dc jdk_29_method_45_code 51 (.land) 1 52 := ⟨by decide +kernel, rfl⟩
theorem djdk_29_45_52 : Dc jdk_29_method_45_code 52 (.lstore 16) 2 54 := ⟨by decide +kernel, rfl⟩
theorem djdk_29_45_54 : Dc jdk_29_method_45_code 54 (.lload 14) 2 56 := ⟨by decide +kernel, rfl⟩
theorem djdk_29_45_56 : Dc jdk_29_method_45_code 56 (.bipush 32) 2 58 := ⟨by decide +kernel, rfl⟩
theorem djdk_29_45_58 : Dc jdk_29_method_45_code 58 (.lshr) 1 59 := ⟨by decide +kernel, rfl⟩
theorem djdk_29_45_59 : Dc jdk_29_method_45_code 59 (.lstore 18) 2 61 := ⟨by decide +kernel, rfl⟩
theorem djdk_29_45_61 : Dc jdk_29_method_45_code 61 (.lload 16) 2 63 := ⟨by decide +kernel, rfl⟩
theorem djdk_29_45_63 : Dc jdk_29_method_45_code 63 (.lload 6) 2 65 := ⟨by decide +kernel, rfl⟩
theorem djdk_29_45_65 : Dc jdk_29_method_45_code 65 (.lload 8) 2 67 := ⟨by decide +kernel, rfl⟩
theorem djdk_29_45_67 : Dc jdk_29_method_45_code 67 (.lmul) 1 68 := ⟨by decide +kernel, rfl⟩
theorem djdk_29_45_68 : Dc jdk_29_method_45_code 68 (.ladd) 1 69 := ⟨by decide +kernel, rfl⟩
theorem djdk_29_45_69 : Dc jdk_29_method_45_code 69 (.lstore 16) 2 71 := ⟨by decide +kernel, rfl⟩
theorem djdk_29_45_71 : Dc jdk_29_method_45_code 71 (.lload 4) 2 73 := ⟨by decide +kernel, rfl⟩
theorem djdk_29_45_73 : Dc jdk_29_method_45_code 73 (.lload 8) 2 75 := ⟨by decide +kernel, rfl⟩
theorem djdk_29_45_75 : Dc jdk_29_method_45_code 75 (.lmul) 1 76 := ⟨by decide +kernel, rfl⟩
theorem djdk_29_45_76 : Dc jdk_29_method_45_code 76 (.lload 18) 2 78 := ⟨by decide +kernel, rfl⟩
theorem djdk_29_45_78 : Dc jdk_29_method_45_code 78 (.ladd) 1 79 := ⟨by decide +kernel, rfl⟩
theorem djdk_29_45_79 : Dc jdk_29_method_45_code 79 (.lload 16) 2 81 := ⟨by decide +kernel, rfl⟩
theorem djdk_29_45_81 : Dc jdk_29_method_45_code 81 (.bipush 32) 2 83 := ⟨by decide +kernel, rfl⟩
theorem djdk_29_45_83 : Dc jdk_29_method_45_code 83 (.lshr) 1 84 := ⟨by decide +kernel, rfl⟩
theorem djdk_29_45_84 : Dc jdk_29_method_45_code 84 (.ladd) 1 85 := ⟨by decide +kernel, rfl⟩
theorem djdk_29_45_85 : Dc jdk_29_method_45_code 85 (.lreturn) 1 86 := ⟨by decide +kernel, rfl⟩
theorem djdk_29_61_0 : Dc jdk_29_method_61_code 0 (.lload_n 0) 1 1 := ⟨by decide +kernel, rfl⟩
theorem djdk_29_61_1 : Dc jdk_29_method_61_code 1 (.lconst 0) 1 2 := ⟨by decide +kernel, rfl⟩
theorem djdk_29_61_2 : Dc jdk_29_method_61_code 2 (.lcmp) 1 3 := ⟨by decide +kernel, rfl⟩
theorem djdk_29_61_3 : Bc jdk_29_method_61_code 3 (.ifCond .ge) 11 6 := ⟨8, by decide +kernel, by decide, by decide, rfl⟩
theorem djdk_29_61_6 : Dc jdk_29_method_61_code 6 (.lload_n 0) 1 7 := ⟨by decide +kernel, rfl⟩
theorem djdk_29_61_7 : Dc jdk_29_method_61_code 7 (.lneg) 1 8 := ⟨by decide +kernel, rfl⟩
theorem djdk_29_61_8 : Bc jdk_29_method_61_code 8 (.goto) 12 11 := ⟨4, by decide +kernel, by decide, by decide, rfl⟩
theorem djdk_29_61_11 : Dc jdk_29_method_61_code 11 (.lload_n 0) 1 12 := ⟨by decide +kernel, rfl⟩
theorem djdk_29_61_12 : Dc jdk_29_method_61_code 12 (.lreturn) 1 13 := ⟨by decide +kernel, rfl⟩
theorem djdk_30_1_0 : Dc jdk_30_method_1_code 0 (.aload_n 0) 1 1 := ⟨by decide +kernel, rfl⟩
theorem djdk_30_1_1 : Dc jdk_30_method_1_code 1 (.invokespecial 1) 3 4 := ⟨by decide +kernel, rfl⟩
theorem djdk_30_1_4 : Dc jdk_30_method_1_code 4 (.return_) 1 5 := ⟨by decide +kernel, rfl⟩
theorem djdk_35_42_0 : Dc jdk_35_method_42_code 0 (.lload_n 0) 1 1 := ⟨by decide +kernel, rfl⟩
theorem djdk_35_42_1 : Dc jdk_35_method_42_code 1 (.lload_n 2) 1 2 := ⟨by decide +kernel, rfl⟩
theorem djdk_35_42_2 : Dc jdk_35_method_42_code 2 (.lcmp) 1 3 := ⟨by decide +kernel, rfl⟩
theorem djdk_35_42_3 : Bc jdk_35_method_42_code 3 (.ifCond .ge) 10 6 := ⟨7, by decide +kernel, by decide, by decide, rfl⟩
theorem djdk_35_42_6 : Dc jdk_35_method_42_code 6 (.iconst (-1)) 1 7 := ⟨by decide +kernel, rfl⟩
theorem djdk_35_42_7 : Bc jdk_35_method_42_code 7 (.goto) 21 10 := ⟨14, by decide +kernel, by decide, by decide, rfl⟩
theorem djdk_35_42_10 : Dc jdk_35_method_42_code 10 (.lload_n 0) 1 11 := ⟨by decide +kernel, rfl⟩
theorem djdk_35_42_11 : Dc jdk_35_method_42_code 11 (.lload_n 2) 1 12 := ⟨by decide +kernel, rfl⟩
theorem djdk_35_42_12 : Dc jdk_35_method_42_code 12 (.lcmp) 1 13 := ⟨by decide +kernel, rfl⟩
theorem djdk_35_42_13 : Bc jdk_35_method_42_code 13 (.ifCond .ne) 20 16 := ⟨7, by decide +kernel, by decide, by decide, rfl⟩
theorem djdk_35_42_16 : Dc jdk_35_method_42_code 16 (.iconst 0) 1 17 := ⟨by decide +kernel, rfl⟩
theorem djdk_35_42_17 : Bc jdk_35_method_42_code 17 (.goto) 21 20 := ⟨4, by decide +kernel, by decide, by decide, rfl⟩
theorem djdk_35_42_20 : Dc jdk_35_method_42_code 20 (.iconst 1) 1 21 := ⟨by decide +kernel, rfl⟩
theorem djdk_35_42_21 : Dc jdk_35_method_42_code 21 (.ireturn) 1 22 := ⟨by decide +kernel, rfl⟩
theorem djdk_35_43_0 : Dc jdk_35_method_43_code 0 (.lload_n 0) 1 1 := ⟨by decide +kernel, rfl⟩
theorem djdk_35_43_1 : Dc jdk_35_method_43_code 1 (.ldc2_w 168) 3 4 := ⟨by decide +kernel, rfl⟩
theorem djdk_35_43_4 : Dc jdk_35_method_43_code 4 (.ladd) 1 5 := ⟨by decide +kernel, rfl⟩
theorem djdk_35_43_5 : Dc jdk_35_method_43_code 5 (.lload_n 2) 1 6 := ⟨by decide +kernel, rfl⟩
theorem djdk_35_43_6 : Dc jdk_35_method_43_code 6 (.ldc2_w 168) 3 9 := ⟨by decide +kernel, rfl⟩
theorem djdk_35_43_9 : Dc jdk_35_method_43_code 9 (.ladd) 1 10 := ⟨by decide +kernel, rfl⟩
theorem djdk_35_43_10 : Dc jdk_35_method_43_code 10 (.invokestatic 302) 3 13 := ⟨by decide +kernel, rfl⟩
theorem djdk_35_43_13 : Dc jdk_35_method_43_code 13 (.ireturn) 1 14 := ⟨by decide +kernel, rfl⟩
theorem djdk_37_2_0 : Dc jdk_37_method_2_code 0 (.aload_n 0) 1 1 := ⟨by decide +kernel, rfl⟩
theorem djdk_37_2_1 : Dc jdk_37_method_2_code 1 (.getfield 7) 3 4 := ⟨by decide +kernel, rfl⟩
theorem djdk_37_2_4 : Dc jdk_37_method_2_code 4 (.ireturn) 1 5 := ⟨by decide +kernel, rfl⟩
theorem d3_0 : Dc method_3_code 0 (.iload_n 0) 1 1 := ⟨by decide +kernel, rfl⟩
theorem d3_1 : Bc method_3_code 1 (.ifCond .ne) 8 4 := ⟨7, by decide +kernel, by decide, by decide, rfl⟩
theorem d3_4 : Dc method_3_code 4 (.getstatic 30) 3 7 := ⟨by decide +kernel, rfl⟩
theorem d3_7 : Dc method_3_code 7 (.areturn) 1 8 := ⟨by decide +kernel, rfl⟩
theorem d3_8 : Dc method_3_code 8 (.iload_n 0) 1 9 := ⟨by decide +kernel, rfl⟩
theorem d3_9 : Dc method_3_code 9 (.iconst 1) 1 10 := ⟨by decide +kernel, rfl⟩
theorem d3_10 : Bc method_3_code 10 (.if_icmp .ne) 17 13 := ⟨7, by decide +kernel, by decide, by decide, rfl⟩
theorem d3_13 : Dc method_3_code 13 (.getstatic 34) 3 16 := ⟨by decide +kernel, rfl⟩
theorem d3_16 : Dc method_3_code 16 (.areturn) 1 17 := ⟨by decide +kernel, rfl⟩
theorem d3_17 : Dc method_3_code 17 (.iload_n 0) 1 18 := ⟨by decide +kernel, rfl⟩
theorem d3_18 : Dc method_3_code 18 (.iconst 2) 1 19 := ⟨by decide +kernel, rfl⟩
theorem d3_19 : Bc method_3_code 19 (.if_icmp .ne) 26 22 := ⟨7, by decide +kernel, by decide, by decide, rfl⟩
theorem d3_22 : Dc method_3_code 22 (.getstatic 37) 3 25 := ⟨by decide +kernel, rfl⟩
theorem d3_25 : Dc method_3_code 25 (.areturn) 1 26 := ⟨by decide +kernel, rfl⟩
theorem d3_26 : Dc method_3_code 26 (.getstatic 40) 3 29 := ⟨by decide +kernel, rfl⟩
theorem d3_29 : Dc method_3_code 29 (.areturn) 1 30 := ⟨by decide +kernel, rfl⟩
theorem dprog_17_1_0 : Dc prog_17_method_1_code 0 (.aload_n 0) 1 1 := ⟨by decide +kernel, rfl⟩
theorem dprog_17_1_1 : Dc prog_17_method_1_code 1 (.invokespecial 1) 3 4 := ⟨by decide +kernel, rfl⟩
theorem dprog_17_1_4 : Dc prog_17_method_1_code 4 (.lload_n 3) 1 5 := ⟨by decide +kernel, rfl⟩
theorem dprog_17_1_5 : Dc prog_17_method_1_code 5 (.lconst 0) 1 6 := ⟨by decide +kernel, rfl⟩
theorem dprog_17_1_6 : Dc prog_17_method_1_code 6 (.lcmp) 1 7 := ⟨by decide +kernel, rfl⟩
theorem dprog_17_1_7 : Bc prog_17_method_1_code 7 (.ifCond .gt) 24 10 := ⟨17, by decide +kernel, by decide, by decide, rfl⟩
theorem dprog_17_1_24 : Dc prog_17_method_1_code 24 (.lload_n 1) 1 25 := ⟨by decide +kernel, rfl⟩
theorem dprog_17_1_25 : Dc prog_17_method_1_code 25 (.lload_n 3) 1 26 := ⟨by decide +kernel, rfl⟩
theorem dprog_17_1_26 : Dc prog_17_method_1_code 26 (.invokestatic 16) 3 29 := ⟨by decide +kernel, rfl⟩
theorem dprog_17_1_29 : Dc prog_17_method_1_code 29 (.lstore 5) 2 31 := ⟨by decide +kernel, rfl⟩
theorem dprog_17_1_31 : Dc prog_17_method_1_code 31 (.lload_n 1) 1 32 := ⟨by decide +kernel, rfl⟩
theorem dprog_17_1_32 : Dc prog_17_method_1_code 32 (.lload 5) 2 34 := ⟨by decide +kernel, rfl⟩
theorem dprog_17_1_34 : Dc prog_17_method_1_code 34 (.ldiv) 1 35 := ⟨by decide +kernel, rfl⟩
theorem dprog_17_1_35 : Dc prog_17_method_1_code 35 (.lstore_n 1) 1 36 := ⟨by decide +kernel, rfl⟩
theorem dprog_17_1_36 : Dc prog_17_method_1_code 36 (.lload_n 3) 1 37 := ⟨by decide +kernel, rfl⟩
theorem dprog_17_1_37 : Dc prog_17_method_1_code 37 (.lload 5) 2 39 := ⟨by decide +kernel, rfl⟩
theorem dprog_17_1_39 : Dc prog_17_method_1_code 39 (.ldiv) 1 40 := ⟨by decide +kernel, rfl⟩
theorem dprog_17_1_40 : Dc prog_17_method_1_code 40 (.lstore_n 3) 1 41 := ⟨by decide +kernel, rfl⟩
theorem dprog_17_1_41 : Dc prog_17_method_1_code 41 (.aload_n 0) 1 42 := ⟨by decide +kernel, rfl⟩
theorem dprog_17_1_42 : Dc prog_17_method_1_code 42 (.lload_n 1) 1 43 := ⟨by decide +kernel, rfl⟩
theorem dprog_17_1_43 : Dc prog_17_method_1_code 43 (.putfield 22) 3 46 := ⟨by decide +kernel, rfl⟩
theorem dprog_17_1_46 : Dc prog_17_method_1_code 46 (.aload_n 0) 1 47 := ⟨by decide +kernel, rfl⟩
theorem dprog_17_1_47 : Dc prog_17_method_1_code 47 (.lload_n 3) 1 48 := ⟨by decide +kernel, rfl⟩
theorem dprog_17_1_48 : Dc prog_17_method_1_code 48 (.putfield 26) 3 51 := ⟨by decide +kernel, rfl⟩
theorem dprog_17_1_51 : Dc prog_17_method_1_code 51 (.return_) 1 52 := ⟨by decide +kernel, rfl⟩
theorem dprog_17_3_0 : Dc prog_17_method_3_code 0 (.aload_n 0) 1 1 := ⟨by decide +kernel, rfl⟩
theorem dprog_17_3_1 : Dc prog_17_method_3_code 1 (.getfield 22) 3 4 := ⟨by decide +kernel, rfl⟩
theorem dprog_17_3_4 : Dc prog_17_method_3_code 4 (.aload_n 1) 1 5 := ⟨by decide +kernel, rfl⟩
theorem dprog_17_3_5 : Dc prog_17_method_3_code 5 (.getfield 26) 3 8 := ⟨by decide +kernel, rfl⟩
theorem dprog_17_3_8 : Dc prog_17_method_3_code 8 (.aload_n 1) 1 9 := ⟨by decide +kernel, rfl⟩
theorem dprog_17_3_9 : Dc prog_17_method_3_code 9 (.getfield 22) 3 12 := ⟨by decide +kernel, rfl⟩
theorem dprog_17_3_12 : Dc prog_17_method_3_code 12 (.aload_n 0) 1 13 := ⟨by decide +kernel, rfl⟩
theorem dprog_17_3_13 : Dc prog_17_method_3_code 13 (.getfield 26) 3 16 := ⟨by decide +kernel, rfl⟩
theorem dprog_17_3_16 : Dc prog_17_method_3_code 16 (.invokestatic 77) 3 19 := ⟨by decide +kernel, rfl⟩
theorem dprog_17_3_19 : Dc prog_17_method_3_code 19 (.ireturn) 1 20 := ⟨by decide +kernel, rfl⟩
theorem dprog_17_6_0 : Dc prog_17_method_6_code 0 (.lload_n 0) 1 1 := ⟨by decide +kernel, rfl⟩
theorem dprog_17_6_1 : Dc prog_17_method_6_code 1 (.lload_n 2) 1 2 := ⟨by decide +kernel, rfl⟩
theorem dprog_17_6_2 : Dc prog_17_method_6_code 2 (.invokestatic 93) 3 5 := ⟨by decide +kernel, rfl⟩
theorem dprog_17_6_5 : Dc prog_17_method_6_code 5 (.lload 4) 2 7 := ⟨by decide +kernel, rfl⟩
theorem dprog_17_6_7 : Dc prog_17_method_6_code 7 (.lload 6) 2 9 := ⟨by decide +kernel, rfl⟩
theorem dprog_17_6_9 : Dc prog_17_method_6_code 9 (.invokestatic 93) 3 12 := ⟨by decide +kernel, rfl⟩
theorem dprog_17_6_12 : Dc prog_17_method_6_code 12 (.invokestatic 98) 3 15 := ⟨by decide +kernel, rfl⟩
theorem dprog_17_6_15 : Dc prog_17_method_6_code 15 (.istore 8) 2 17 := ⟨by decide +kernel, rfl⟩
theorem dprog_17_6_17 : Dc prog_17_method_6_code 17 (.iload 8) 2 19 := ⟨by decide +kernel, rfl⟩
theorem dprog_17_6_19 : Bc prog_17_method_6_code 19 (.ifCond .ne) 35 22 := ⟨16, by decide +kernel, by decide, by decide, rfl⟩
theorem dprog_17_6_22 : Dc prog_17_method_6_code 22 (.lload_n 0) 1 23 := ⟨by decide +kernel, rfl⟩
theorem dprog_17_6_23 : Dc prog_17_method_6_code 23 (.lload_n 2) 1 24 := ⟨by decide +kernel, rfl⟩
theorem dprog_17_6_24 : Dc prog_17_method_6_code 24 (.lmul) 1 25 := ⟨by decide +kernel, rfl⟩
theorem dprog_17_6_25 : Dc prog_17_method_6_code 25 (.lload 4) 2 27 := ⟨by decide +kernel, rfl⟩
theorem dprog_17_6_27 : Dc prog_17_method_6_code 27 (.lload 6) 2 29 := ⟨by decide +kernel, rfl⟩
theorem dprog_17_6_29 : Dc prog_17_method_6_code 29 (.lmul) 1 30 := ⟨by decide +kernel, rfl⟩
theorem dprog_17_6_30 : Dc prog_17_method_6_code 30 (.invokestatic 102) 3 33 := ⟨by decide +kernel, rfl⟩
theorem dprog_17_6_33 : Dc prog_17_method_6_code 33 (.istore 8) 2 35 := ⟨by decide +kernel, rfl⟩
theorem dprog_17_6_35 : Dc prog_17_method_6_code 35 (.iload 8) 2 37 := ⟨by decide +kernel, rfl⟩
theorem dprog_17_6_37 : Dc prog_17_method_6_code 37 (.ireturn) 1 38 := ⟨by decide +kernel, rfl⟩
theorem dprog_17_7_0 : Dc prog_17_method_7_code 0 (.lload_n 2) 1 1 := ⟨by decide +kernel, rfl⟩
theorem dprog_17_7_1 : Dc prog_17_method_7_code 1 (.lstore 4) 2 3 := ⟨by decide +kernel, rfl⟩
theorem dprog_17_7_3 : Dc prog_17_method_7_code 3 (.lload_n 0) 1 4 := ⟨by decide +kernel, rfl⟩
theorem dprog_17_7_4 : Dc prog_17_method_7_code 4 (.lload_n 2) 1 5 := ⟨by decide +kernel, rfl⟩
theorem dprog_17_7_5 : Dc prog_17_method_7_code 5 (.lrem) 1 6 := ⟨by decide +kernel, rfl⟩
theorem dprog_17_7_6 : Dc prog_17_method_7_code 6 (.invokestatic 105) 3 9 := ⟨by decide +kernel, rfl⟩
theorem dprog_17_7_9 : Dc prog_17_method_7_code 9 (.lstore 6) 2 11 := ⟨by decide +kernel, rfl⟩
theorem dprog_17_7_11 : Dc prog_17_method_7_code 11 (.lload 6) 2 13 := ⟨by decide +kernel, rfl⟩
theorem dprog_17_7_13 : Dc prog_17_method_7_code 13 (.lconst 0) 1 14 := ⟨by decide +kernel, rfl⟩
theorem dprog_17_7_14 : Dc prog_17_method_7_code 14 (.lcmp) 1 15 := ⟨by decide +kernel, rfl⟩
theorem dprog_17_7_15 : Bc prog_17_method_7_code 15 (.ifCond .eq) 36 18 := ⟨21, by decide +kernel, by decide, by decide, rfl⟩
theorem dprog_17_7_18 : Dc prog_17_method_7_code 18 (.lload 4) 2 20 := ⟨by decide +kernel, rfl⟩
theorem dprog_17_7_20 : Dc prog_17_method_7_code 20 (.lload 6) 2 22 := ⟨by decide +kernel, rfl⟩
theorem dprog_17_7_22 : Dc prog_17_method_7_code 22 (.lrem) 1 23 := ⟨by decide +kernel, rfl⟩
theorem dprog_17_7_23 : Dc prog_17_method_7_code 23 (.lstore 8) 2 25 := ⟨by decide +kernel, rfl⟩
theorem dprog_17_7_25 : Dc prog_17_method_7_code 25 (.lload 6) 2 27 := ⟨by decide +kernel, rfl⟩
theorem dprog_17_7_27 : Dc prog_17_method_7_code 27 (.lstore 4) 2 29 := ⟨by decide +kernel, rfl⟩
theorem dprog_17_7_29 : Dc prog_17_method_7_code 29 (.lload 8) 2 31 := ⟨by decide +kernel, rfl⟩
theorem dprog_17_7_31 : Dc prog_17_method_7_code 31 (.lstore 6) 2 33 := ⟨by decide +kernel, rfl⟩
theorem dprog_17_7_33 : Bc prog_17_method_7_code 33 (.goto) 11 36 := ⟨(-22), by decide +kernel, by decide, by decide, rfl⟩
theorem dprog_17_7_36 : Dc prog_17_method_7_code 36 (.lload 4) 2 38 := ⟨by decide +kernel, rfl⟩
theorem dprog_17_7_38 : Dc prog_17_method_7_code 38 (.lreturn) 1 39 := ⟨by decide +kernel, rfl⟩
theorem dprog_18_5_0 : Dc prog_18_method_5_code 0 (.aload_n 0) 1 1 := ⟨by decide +kernel, rfl⟩
theorem dprog_18_5_1 : Dc prog_18_method_5_code 1 (.getstatic 3) 3 4 := ⟨by decide +kernel, rfl⟩
theorem dprog_18_5_4 : Bc prog_18_method_5_code 4 (.if_acmp .eq) 14 7 := ⟨10, by decide +kernel, by decide, by decide, rfl⟩
theorem dprog_18_5_7 : Dc prog_18_method_5_code 7 (.aload_n 0) 1 8 := ⟨by decide +kernel, rfl⟩
theorem dprog_18_5_8 : Dc prog_18_method_5_code 8 (.getstatic 7) 3 11 := ⟨by decide +kernel, rfl⟩
theorem dprog_18_5_11 : Bc prog_18_method_5_code 11 (.if_acmp .ne) 18 14 := ⟨7, by decide +kernel, by decide, by decide, rfl⟩
theorem dprog_18_5_14 : Dc prog_18_method_5_code 14 (.iconst 1) 1 15 := ⟨by decide +kernel, rfl⟩
theorem dprog_18_5_15 : Bc prog_18_method_5_code 15 (.goto) 19 18 := ⟨4, by decide +kernel, by decide, by decide, rfl⟩
theorem dprog_18_5_18 : Dc prog_18_method_5_code 18 (.iconst 0) 1 19 := ⟨by decide +kernel, rfl⟩
theorem dprog_18_5_19 : Dc prog_18_method_5_code 19 (.ireturn) 1 20 := ⟨by decide +kernel, rfl⟩
theorem dprog_18_6_0 : Dc prog_18_method_6_code 0 (.aload_n 1) 1 1 := ⟨by decide +kernel, rfl⟩
theorem dprog_18_6_1 : Dc prog_18_method_6_code 1 (.aload_n 2) 1 2 := ⟨by decide +kernel, rfl⟩
theorem dprog_18_6_2 : Dc prog_18_method_6_code 2 (.invokevirtual 39) 3 5 := ⟨by decide +kernel, rfl⟩
theorem dprog_18_6_5 : Dc prog_18_method_6_code 5 (.istore_n 3) 1 6 := ⟨by decide +kernel, rfl⟩
theorem dprog_18_6_6 : Dc prog_18_method_6_code 6 (.aload_n 0) 1 7 := ⟨by decide +kernel, rfl⟩
theorem dprog_18_6_7 : Dc prog_18_method_6_code 7 (.invokevirtual 45) 3 10 := ⟨by decide +kernel, rfl⟩
theorem dprog_18_6_10 : Dc prog_18_method_6_code 10 (.tableswitch 30 0 3 #[40, 52, 64, 76]) 30 40 := ⟨by decide +kernel, rfl⟩
theorem dprog_18_6_50 : Dc prog_18_method_6_code 50 (.iload_n 3) 1 51 := ⟨by decide +kernel, rfl⟩
theorem dprog_18_6_51 : Bc prog_18_method_6_code 51 (.ifCond .lt) 58 54 := ⟨7, by decide +kernel, by decide, by decide, rfl⟩
theorem dprog_18_6_54 : Dc prog_18_method_6_code 54 (.iconst 1) 1 55 := ⟨by decide +kernel, rfl⟩
theorem dprog_18_6_55 : Bc prog_18_method_6_code 55 (.goto) 95 58 := ⟨40, by decide +kernel, by decide, by decide, rfl⟩
theorem dprog_18_6_58 : Dc prog_18_method_6_code 58 (.iconst 0) 1 59 := ⟨by decide +kernel, rfl⟩
theorem dprog_18_6_59 : Bc prog_18_method_6_code 59 (.goto) 95 62 := ⟨36, by decide +kernel, by decide, by decide, rfl⟩
theorem dprog_18_6_62 : Dc prog_18_method_6_code 62 (.iload_n 3) 1 63 := ⟨by decide +kernel, rfl⟩
theorem dprog_18_6_63 : Bc prog_18_method_6_code 63 (.ifCond .le) 70 66 := ⟨7, by decide +kernel, by decide, by decide, rfl⟩
theorem dprog_18_6_66 : Dc prog_18_method_6_code 66 (.iconst 1) 1 67 := ⟨by decide +kernel, rfl⟩
theorem dprog_18_6_67 : Bc prog_18_method_6_code 67 (.goto) 95 70 := ⟨28, by decide +kernel, by decide, by decide, rfl⟩
theorem dprog_18_6_70 : Dc prog_18_method_6_code 70 (.iconst 0) 1 71 := ⟨by decide +kernel, rfl⟩
theorem dprog_18_6_71 : Bc prog_18_method_6_code 71 (.goto) 95 74 := ⟨24, by decide +kernel, by decide, by decide, rfl⟩
theorem dprog_18_6_74 : Dc prog_18_method_6_code 74 (.iload_n 3) 1 75 := ⟨by decide +kernel, rfl⟩
theorem dprog_18_6_75 : Bc prog_18_method_6_code 75 (.ifCond .gt) 82 78 := ⟨7, by decide +kernel, by decide, by decide, rfl⟩
theorem dprog_18_6_78 : Dc prog_18_method_6_code 78 (.iconst 1) 1 79 := ⟨by decide +kernel, rfl⟩
theorem dprog_18_6_79 : Bc prog_18_method_6_code 79 (.goto) 95 82 := ⟨16, by decide +kernel, by decide, by decide, rfl⟩
theorem dprog_18_6_82 : Dc prog_18_method_6_code 82 (.iconst 0) 1 83 := ⟨by decide +kernel, rfl⟩
theorem dprog_18_6_83 : Bc prog_18_method_6_code 83 (.goto) 95 86 := ⟨12, by decide +kernel, by decide, by decide, rfl⟩
theorem dprog_18_6_86 : Dc prog_18_method_6_code 86 (.iload_n 3) 1 87 := ⟨by decide +kernel, rfl⟩
theorem dprog_18_6_87 : Bc prog_18_method_6_code 87 (.ifCond .ge) 94 90 := ⟨7, by decide +kernel, by decide, by decide, rfl⟩
theorem dprog_18_6_90 : Dc prog_18_method_6_code 90 (.iconst 1) 1 91 := ⟨by decide +kernel, rfl⟩
theorem dprog_18_6_91 : Bc prog_18_method_6_code 91 (.goto) 95 94 := ⟨4, by decide +kernel, by decide, by decide, rfl⟩
theorem dprog_18_6_94 : Dc prog_18_method_6_code 94 (.iconst 0) 1 95 := ⟨by decide +kernel, rfl⟩
theorem dprog_18_6_95 : Dc prog_18_method_6_code 95 (.istore 4) 2 97 := ⟨by decide +kernel, rfl⟩
theorem dprog_18_6_97 : Dc prog_18_method_6_code 97 (.iload 4) 2 99 := ⟨by decide +kernel, rfl⟩
theorem dprog_18_6_99 : Dc prog_18_method_6_code 99 (.ireturn) 1 100 := ⟨by decide +kernel, rfl⟩
theorem pd_0 : parseMethodDescriptor "(J)J" = some ⟨[.long], some .long⟩ := by decide +kernel
theorem pd_1 : parseMethodDescriptor "()V" = some ⟨[], none⟩ := by decide +kernel
theorem pd_2 : parseMethodDescriptor "(JJ)J" = some ⟨[.long, .long], some .long⟩ := by decide +kernel
theorem pd_3 : parseMethodDescriptor "(JJ)I" = some ⟨[.long, .long], some .int⟩ := by decide +kernel
theorem pd_4 : parseMethodDescriptor "(JJJJ)I" = some ⟨[.long, .long, .long, .long], some .int⟩ := by decide +kernel
theorem pd_5 : parseMethodDescriptor "(Lcom/example/flicker/flicker/game/Rational;)I" = some ⟨[(.object "com/example/flicker/flicker/game/Rational")], some .int⟩ := by decide +kernel
theorem pd_6 : parseMethodDescriptor "()I" = some ⟨[], some .int⟩ := by decide +kernel
theorem pd_7 : parseMethodDescriptor "(I)Lcom/example/flicker/flicker/game/Relation;" = some ⟨[.int], some (.object "com/example/flicker/flicker/game/Relation")⟩ := by decide +kernel
theorem pd_8 : parseMethodDescriptor "(JJ)V" = some ⟨[.long, .long], none⟩ := by decide +kernel
theorem pd_9 : parseMethodDescriptor "()Z" = some ⟨[], some .boolean⟩ := by decide +kernel
theorem pd_10 : parseMethodDescriptor "(Lcom/example/flicker/flicker/game/Rational;Lcom/example/flicker/flicker/game/Rational;)Z" = some ⟨[(.object "com/example/flicker/flicker/game/Rational"), (.object "com/example/flicker/flicker/game/Rational")], some .boolean⟩ := by decide +kernel
theorem pn_0 : plainName "com/example/flicker/flicker/game/RelationBoundsBelowPinLaw" = true := by first | (simp [plainName, overriddenIn]; done) | decide +kernel
theorem pn_1 : plainName "com/example/flicker/flicker/game/Rational" = true := by first | (simp [plainName, overriddenIn]; done) | decide +kernel
theorem pn_2 : plainName "java/lang/Record" = true := by first | (simp [plainName, overriddenIn]; done) | decide +kernel
theorem pn_3 : plainName "java/lang/Long" = true := by first | (simp [plainName, overriddenIn]; done) | decide +kernel
theorem pn_4 : plainName "java/lang/Enum" = true := by first | (simp [plainName, overriddenIn]; done) | decide +kernel
theorem pn_5 : plainName "com/example/flicker/flicker/game/Relation" = true := by first | (simp [plainName, overriddenIn]; done) | decide +kernel
set_option maxRecDepth 65536 in
set_option maxHeartbeats 40000000 in
theorem m_pick {l : Launch} {Z : State} {a0 : Array Value} {n0 : Nat} (hw : ∀ d ∈ tables_1, d.before a0 Z = true) {h0 : Heap} {sA sB sC sE : Addr} {r : Addr} (i : Int32) (hr : own_pick i sA sB sC sE = r) (S_sA : Sta Z Z.heap "com/example/flicker/flicker/game/Relation" "AT_LEAST" "Lcom/example/flicker/flicker/game/Relation;" (.ref sA)) (E_sA : Exa Z Z.heap sA "com/example/flicker/flicker/game/Relation") (O_sA : Fld Z Z.heap sA "java/lang/Enum" "ordinal" "I" (.int (0 : Int32))) (S_sB : Sta Z Z.heap "com/example/flicker/flicker/game/Relation" "ABOVE" "Lcom/example/flicker/flicker/game/Relation;" (.ref sB)) (E_sB : Exa Z Z.heap sB "com/example/flicker/flicker/game/Relation") (O_sB : Fld Z Z.heap sB "java/lang/Enum" "ordinal" "I" (.int (1 : Int32))) (S_sC : Sta Z Z.heap "com/example/flicker/flicker/game/Relation" "AT_MOST" "Lcom/example/flicker/flicker/game/Relation;" (.ref sC)) (E_sC : Exa Z Z.heap sC "com/example/flicker/flicker/game/Relation") (O_sC : Fld Z Z.heap sC "java/lang/Enum" "ordinal" "I" (.int (2 : Int32))) (S_sE : Sta Z Z.heap "com/example/flicker/flicker/game/Relation" "BELOW" "Lcom/example/flicker/flicker/game/Relation;" (.ref sE)) (E_sE : Exa Z Z.heap sE "com/example/flicker/flicker/game/Relation") (O_sE : Fld Z Z.heap sE "java/lang/Enum" "ordinal" "I" (.int (3 : Int32))) :
    Does l Z n0 ⟨"com/example/flicker/flicker/game/RelationBoundsBelowPinLaw", "pick", "(I)Lcom/example/flicker/flicker/game/Relation;"⟩ method_3_code 1 (some (.object "com/example/flicker/flicker/game/Relation")) [] { frames := 0, cells := 0, slots := 0, locals := 0 } #[(.int i)] h0 (fun v h => v = some (.ref r) ∧ h0 = h) := by
  refine Does.start (plainFor_of_name pn_0) ?_
  intro p e s m below meth c T X
  replace X : Sd Z n0 0 method_3_code 1 "com/example/flicker/flicker/game/RelationBoundsBelowPinLaw" "pick" (some (.object "com/example/flicker/flicker/game/Relation")) h0 p l e { frames := 0, cells := 0, slots := 0, locals := 0 } s m #[(.int i)] below meth c T [] 0 0 := X
  refine Wp.cast (g' := mkF m 0 #[.val (.int i)] []) (by first | (simp [entryFrame, mkF, argsToLocals, Value.category, maxLocals]; done) | rfl) ?_
  refine w_iloadN X d3_0 rfl ?_
  refine w_ifne X d3_1 (fun (hc1 : ¬ i = (0 : Int32)) => ?_) (fun (hc1 : i = (0 : Int32)) => ?_)
  · refine w_iloadN X d3_8 rfl ?_
    refine w_iconst X (1 : Int32) d3_9 rfl ?_
    refine w_icmpne X d3_10 (fun (hc10 : ¬ i = (1 : Int32)) => ?_) (fun (hc10 : i = (1 : Int32)) => ?_)
    · refine w_iloadN X d3_17 rfl ?_
      refine w_iconst X (2 : Int32) d3_18 rfl ?_
      refine w_icmpne X d3_19 (fun (hc19 : ¬ i = (2 : Int32)) => ?_) (fun (hc19 : i = (2 : Int32)) => ?_)
      · refine w_getS X d3_26 (host := "") (Or.inl (wd_75 hw)) Via.refl (S_sE.ext X.old.2) (fun T X => ?_)
        exact w_retR X rfl (rfl) rfl d3_29 ⟨by rw [← hr]; unfold own_pick; simp only [*, if_true, if_false] <;> rfl, rfl⟩ (by decide) (by decide)
      · refine w_getS X d3_22 (host := "") (Or.inl (wd_79 hw)) Via.refl (S_sC.ext X.old.2) (fun T X => ?_)
        exact w_retR X rfl (rfl) rfl d3_25 ⟨by rw [← hr]; unfold own_pick; simp only [*, if_true, if_false] <;> rfl, rfl⟩ (by decide) (by decide)
    · refine w_getS X d3_13 (host := "") (Or.inl (wd_81 hw)) Via.refl (S_sB.ext X.old.2) (fun T X => ?_)
      exact w_retR X rfl (rfl) rfl d3_16 ⟨by rw [← hr]; unfold own_pick; simp only [*, if_true, if_false] <;> rfl, rfl⟩ (by decide) (by decide)
  · refine w_getS X d3_4 (host := "") (Or.inl (wd_4 hw)) Via.refl (S_sA.ext X.old.2) (fun T X => ?_)
    exact w_retR X rfl (rfl) rfl d3_7 ⟨by rw [← hr]; unfold own_pick; simp only [*, if_true, if_false] <;> rfl, rfl⟩ (by decide) (by decide)
set_option maxRecDepth 65536 in
set_option maxHeartbeats 40000000 in
theorem m_abs {l : Launch} {Z : State} {a0 : Array Value} {n0 : Nat} (hw : ∀ d ∈ tables_1, d.before a0 Z = true) {h0 : Heap} (a : Int64)  :
    Does l Z n0 ⟨"java/lang/Math", "abs", "(J)J"⟩ jdk_29_method_61_code 2 (some .long) [] { frames := 0, cells := 0, slots := 0, locals := 0 } #[(.long a)] h0 (fun v h => v = some (.long (own_abs a)) ∧ h0 = h) := by
  refine Does.start (Jvm.Free.JP.mathPlain rfl (by decide +kernel)) ?_
  intro p e s m below meth c T X
  replace X : Sd Z n0 0 jdk_29_method_61_code 2 "java/lang/Math" "abs" (some .long) h0 p l e { frames := 0, cells := 0, slots := 0, locals := 0 } s m #[(.long a)] below meth c T [] 0 0 := X
  refine Wp.cast (g' := mkF m 0 #[.val (.long a), .second] []) (by first | (simp [entryFrame, mkF, argsToLocals, Value.category, maxLocals]; done) | rfl) ?_
  refine w_lloadN X djdk_29_61_0 rfl ?_
  refine w_lconst X (0 : Int64) djdk_29_61_1 rfl ?_
  refine w_lge X djdk_29_61_2 djdk_29_61_3 (fun (hc3 : ¬ a < (0 : Int64)) => ?_) (fun (hc3 : a < (0 : Int64)) => ?_)
  · refine w_lloadN X djdk_29_61_11 rfl ?_
    exact w_retJ X djdk_29_61_12 ⟨by unfold own_abs; simp only [*, if_true, if_false], rfl⟩ (by decide) (by decide)
  · refine w_lloadN X djdk_29_61_6 rfl ?_
    refine w_lneg X djdk_29_61_7 ?_
    refine w_goto X djdk_29_61_8 ?_
    exact w_retJ X djdk_29_61_12 ⟨by unfold own_abs; simp only [*, if_true, if_false], rfl⟩ (by decide) (by decide)
set_option maxRecDepth 65536 in
set_option maxHeartbeats 40000000 in
theorem m_gcd_loop {l : Launch} {Z : State} {a0 : Array Value} {n0 : Nat} (hw : ∀ d ∈ tables_1, d.before a0 Z = true) {h0 : Heap} {Q : Option Value → Heap → Prop} {A B : Int} (hQ : ∀ g : Int64, 0 < g.toInt → g.toInt ∣ A → g.toInt ∣ B → Q (some (.long g)) h0) (n : Nat) :
    ∀ {p : Program} {e : Env} {R : Room} {s : State} {m : MethodId} {args : Array Value} {below : List Frame} {meth : Method} {c : Code} {T : State} {locs : List Loc} {cells slots ce sl kk : Nat} (a b x y t : Int64) (X : Sd Z n0 kk prog_17_method_7_code 10 "com/example/flicker/flicker/game/Rational" "gcd" (some .long) h0 p l e R s m args below meth c T locs cells slots) (hc : cells ≤ ce) (hs : slots ≤ sl) (hn : y.toInt.toNat < n) (hx : 0 < x.toInt) (hy : 0 ≤ y.toInt) (hd : ∀ d : Int, d ∣ x.toInt → d ∣ y.toInt → d ∣ A ∧ d ∣ B),
    Wp p e below (Po Z n0 s Q ce sl) (T.setTop (mkF m 11 #[.val (.long a), .second, .val (.long b), .second, .val (.long x), .second, .val (.long y), .second, .val (.long t), .second] [])) := by
  induction n with
  | zero => intro p e R s m args below meth c T locs cells slots ce sl kk a b x y t X hc hs hn; omega
  | succ n ih =>
    intro p e R s m args below meth c T locs cells slots ce sl kk a b x y t X hc hs hn hx hy hd
    refine w_lload X dprog_17_7_11 rfl ?_
    refine w_lconst X (0 : Int64) dprog_17_7_13 rfl ?_
    refine w_leq X dprog_17_7_14 dprog_17_7_15 (fun (hc15 : y = (0 : Int64)) => ?_) (fun (hc15 : ¬ y = (0 : Int64)) => ?_)
    · refine w_lload X dprog_17_7_36 rfl ?_
      exact w_retJ X dprog_17_7_38 (hQ _ hx (hd _ (Int.dvd_refl _) (by rw [hc15]; exact Int.dvd_zero _)).1 (hd _ (Int.dvd_refl _) (by rw [hc15]; exact Int.dvd_zero _)).2) hc hs
    · refine w_lload X dprog_17_7_18 rfl ?_
      refine w_lload X dprog_17_7_20 rfl ?_
      refine w_lrem X dprog_17_7_22 hc15 ?_
      refine w_lstore X #[.val (.long a), .second, .val (.long b), .second, .val (.long x), .second, .val (.long y), .second, .val (.long (x % y)), .second] dprog_17_7_23 rfl ?_
      refine w_lload X dprog_17_7_25 rfl ?_
      refine w_lstore X #[.val (.long a), .second, .val (.long b), .second, .val (.long y), .second, .val (.long y), .second, .val (.long (x % y)), .second] dprog_17_7_27 rfl ?_
      refine w_lload X dprog_17_7_29 rfl ?_
      refine w_lstore X #[.val (.long a), .second, .val (.long b), .second, .val (.long y), .second, .val (.long (x % y)), .second, .val (.long (x % y)), .second] dprog_17_7_31 rfl ?_
      refine w_goto X dprog_17_7_33 ?_
      exact ih a b y (x % y) (x % y) X hc hs (by have := own_turn hx hy hc15; omega) (own_turn hx hy hc15).1 (own_turn hx hy hc15).2.1 (fun d q1 q2 => hd d ((own_turn hx hy hc15).2.2.2 d q1 q2) q1)
set_option maxRecDepth 65536 in
set_option maxHeartbeats 40000000 in
theorem m_gcd {l : Launch} {Z : State} {a0 : Array Value} {n0 : Nat} (hw : ∀ d ∈ tables_1, d.before a0 Z = true) {h0 : Heap} (a b : Int64) (hb : 0 < b.toInt) :
    Does l Z n0 ⟨"com/example/flicker/flicker/game/Rational", "gcd", "(JJ)J"⟩ prog_17_method_7_code 10 (some .long) [] { frames := 1, cells := 0, slots := 0, locals := 13 } #[(.long a), (.long b)] h0 (fun v h => (∃ g : Int64, v = some (.long g) ∧ 0 < g.toInt ∧ g.toInt ∣ a.toInt ∧ g.toInt ∣ b.toInt) ∧ h0 = h) := by
  refine Does.start (plainFor_of_name pn_1) ?_
  intro p e s m below meth c T X
  replace X : Sd Z n0 0 prog_17_method_7_code 10 "com/example/flicker/flicker/game/Rational" "gcd" (some .long) h0 p l e { frames := 1, cells := 0, slots := 0, locals := 13 } s m #[(.long a), (.long b)] below meth c T [] 0 0 := X
  refine Wp.cast (g' := mkF m 0 #[.val (.long a), .second, .val (.long b), .second, .unset, .unset, .unset, .unset, .unset, .unset] []) (by first | (simp [entryFrame, mkF, argsToLocals, Value.category, maxLocals]; done) | rfl) ?_
  refine w_lloadN X dprog_17_7_0 rfl ?_
  refine w_lstore X #[.val (.long a), .second, .val (.long b), .second, .val (.long b), .second, .unset, .unset, .unset, .unset] dprog_17_7_1 rfl ?_
  refine w_lloadN X dprog_17_7_3 rfl ?_
  refine w_lloadN X dprog_17_7_4 rfl ?_
  refine w_lrem X dprog_17_7_5 (own_nz hb) ?_
  refine w_callS X dprog_17_7_6 (wd_25 hw) (wd_26 hw) (wd_27 hw) (wd_28 hw) (by decide) (argsL := [(.long (a % b))]) (S := []) (m_abs hw (a % b)) pd_0 rfl rfl rfl (by decide) (Nat.le_of_ble_eq_true rfl) (by decide) (by decide) (fun T h1 v1 L1 X q1 => ?_)
  obtain ⟨rfl, rfl⟩ := q1
  show Wp p e below _ (T.setTop (mkF m 9 #[.val (.long a), .second, .val (.long b), .second, .val (.long b), .second, .unset, .unset, .unset, .unset] [(.long (own_abs (a % b)))]))
  refine w_lstore X #[.val (.long a), .second, .val (.long b), .second, .val (.long b), .second, .val (.long (own_abs (a % b))), .second, .unset, .unset] dprog_17_7_9 rfl ?_
  refine w_lload X dprog_17_7_11 rfl ?_
  refine w_lconst X (0 : Int64) dprog_17_7_13 rfl ?_
  refine w_leq X dprog_17_7_14 dprog_17_7_15 (fun (hc15 : (own_abs (a % b)) = (0 : Int64)) => ?_) (fun (hc15 : ¬ (own_abs (a % b)) = (0 : Int64)) => ?_)
  · refine w_lload X dprog_17_7_36 rfl ?_
    exact w_retJ X dprog_17_7_38 ⟨⟨_, rfl, hb, ((own_first (a := a) hb).2 _ (Int.dvd_refl _) (by rw [hc15]; exact Int.dvd_zero _)).1, Int.dvd_refl _⟩, rfl⟩ (by decide) (by decide)
  · refine w_lload X dprog_17_7_18 rfl ?_
    refine w_lload X dprog_17_7_20 rfl ?_
    refine w_lrem X dprog_17_7_22 hc15 ?_
    refine w_lstore X #[.val (.long a), .second, .val (.long b), .second, .val (.long b), .second, .val (.long (own_abs (a % b))), .second, .val (.long (b % (own_abs (a % b)))), .second] dprog_17_7_23 rfl ?_
    refine w_lload X dprog_17_7_25 rfl ?_
    refine w_lstore X #[.val (.long a), .second, .val (.long b), .second, .val (.long (own_abs (a % b))), .second, .val (.long (own_abs (a % b))), .second, .val (.long (b % (own_abs (a % b)))), .second] dprog_17_7_27 rfl ?_
    refine w_lload X dprog_17_7_29 rfl ?_
    refine w_lstore X #[.val (.long a), .second, .val (.long b), .second, .val (.long (own_abs (a % b))), .second, .val (.long (b % (own_abs (a % b)))), .second, .val (.long (b % (own_abs (a % b)))), .second] dprog_17_7_31 rfl ?_
    refine w_goto X dprog_17_7_33 ?_
    exact m_gcd_loop hw (A := a.toInt) (B := b.toInt) (fun g q1 q2 q3 => ⟨⟨g, rfl, q1, q2, q3⟩, rfl⟩) _ a b _ _ _ X (by decide) (by decide) (Nat.lt_succ_self _) (own_turn hb (own_first hb).1 hc15).1 (own_turn hb (own_first hb).1 hc15).2.1 (fun d q1 q2 => (own_first hb).2 d ((own_turn hb (own_first hb).1 hc15).2.2.2 d q1 q2) q1)
set_option maxRecDepth 65536 in
set_option maxHeartbeats 40000000 in
theorem m_rec {l : Launch} {Z : State} {a0 : Array Value} {n0 : Nat} (hw : ∀ d ∈ tables_1, d.before a0 Z = true) {h0 : Heap} {a : Addr}  :
    Does l Z n0 ⟨"java/lang/Record", "<init>", "()V"⟩ jdk_30_method_1_code 1 none [] { frames := 1, cells := 0, slots := 0, locals := 12 } #[(.ref a)] h0 (fun v h => v = none ∧ h0 = h) := by
  refine Does.start (plainFor_of_name pn_2) ?_
  intro p e s m below meth c T X
  replace X : Sd Z n0 0 jdk_30_method_1_code 1 "java/lang/Record" "<init>" none h0 p l e { frames := 1, cells := 0, slots := 0, locals := 12 } s m #[(.ref a)] below meth c T [] 0 0 := X
  refine Wp.cast (g' := mkF m 0 #[.val (.ref a)] []) (by first | (simp [entryFrame, mkF, argsToLocals, Value.category, maxLocals]; done) | rfl) ?_
  refine w_aloadN X djdk_30_1_0 rfl (rfl) ?_
  refine w_initO X djdk_30_1_1 (wd_19 hw) (wd_20 hw) (wd_21 hw) rfl (by decide) (Nat.le_of_ble_eq_true rfl) (fun T X => ?_)
  exact w_retV X djdk_30_1_4 ⟨rfl, rfl⟩ (by decide) (by decide)
set_option maxRecDepth 65536 in
set_option maxHeartbeats 40000000 in
theorem m_init {l : Launch} {Z : State} {a0 : Array Value} {n0 : Nat} (hw : ∀ d ∈ tables_1, d.before a0 Z = true) {h0 : Heap} {a : Addr} (n d : Int64) (hb : 0 < d.toInt) (ga0 : n0 ≤ a) (Ea : Exa Z h0 a "com/example/flicker/flicker/game/Rational") (Fn : Fld Z h0 a "com/example/flicker/flicker/game/Rational" "numerator" "J" (.long (0 : Int64))) (Fd : Fld Z h0 a "com/example/flicker/flicker/game/Rational" "denominator" "J" (.long (0 : Int64))) :
    Does l Z n0 ⟨"com/example/flicker/flicker/game/Rational", "<init>", "(JJ)V"⟩ prog_17_method_1_code 7 none [] { frames := 2, cells := 0, slots := 0, locals := 34 } #[(.ref a), (.long n), (.long d)] h0 (fun v h => v = none ∧ ∃ (n' d' : Int64) (g : Int), 0 < g ∧ n'.toInt * g = n.toInt ∧ d'.toInt * g = d.toInt ∧ Fld Z h a "com/example/flicker/flicker/game/Rational" "numerator" "J" (.long n') ∧ Fld Z h a "com/example/flicker/flicker/game/Rational" "denominator" "J" (.long d') ∧ Exa Z h a "com/example/flicker/flicker/game/Rational" ∧ Keep h0 h [a]) := by
  refine Does.start (plainFor_of_name pn_1) ?_
  intro p e s m below meth c T X
  replace X : Sd Z n0 0 prog_17_method_1_code 7 "com/example/flicker/flicker/game/Rational" "<init>" none h0 p l e { frames := 2, cells := 0, slots := 0, locals := 34 } s m #[(.ref a), (.long n), (.long d)] below meth c T [] 0 0 := X
  refine Wp.cast (g' := mkF m 0 #[.val (.ref a), .val (.long n), .second, .val (.long d), .second, .unset, .unset] []) (by first | (simp [entryFrame, mkF, argsToLocals, Value.category, maxLocals]; done) | rfl) ?_
  refine w_aloadN X dprog_17_1_0 rfl (rfl) ?_
  refine w_callI X dprog_17_1_1 rfl (wd_14 hw) (wd_15 hw) (wd_17 hw) (wd_18 hw) (by decide) (argsL := []) (S := []) (m_rec hw (a := a)) pd_1 rfl rfl rfl (by decide) (Nat.le_of_ble_eq_true rfl) (by decide) (by decide) (fun T h1 v1 L1 X q1 => ?_)
  obtain ⟨rfl, rfl⟩ := q1
  show Wp p e below _ (T.setTop (mkF m 4 #[.val (.ref a), .val (.long n), .second, .val (.long d), .second, .unset, .unset] []))
  refine w_lloadN X dprog_17_1_4 rfl ?_
  refine w_lconst X (0 : Int64) dprog_17_1_5 rfl ?_
  refine w_lgt X dprog_17_1_6 dprog_17_1_7 (fun _ => ?_) (fun hc => absurd (Int64.lt_iff_toInt_lt.mpr (show (0 : Int64).toInt < d.toInt from hb)) hc)
  refine w_lloadN X dprog_17_1_24 rfl ?_
  refine w_lloadN X dprog_17_1_25 rfl ?_
  refine w_callS X dprog_17_1_26 (wd_22 hw) (wd_23 hw) (wd_10 hw) (wd_24 hw) (by decide) (argsL := [(.long n), (.long d)]) (S := []) (m_gcd hw n d hb) pd_2 rfl rfl rfl (by decide) (Nat.le_of_ble_eq_true rfl) (by decide) (by decide) (fun T h2 v2 L2 X q2 => ?_)
  obtain ⟨⟨g, rfl, gp, ga, gb⟩, rfl⟩ := q2
  show Wp p e below _ (T.setTop (mkF m 29 #[.val (.ref a), .val (.long n), .second, .val (.long d), .second, .unset, .unset] [(.long g)]))
  refine w_lstore X #[.val (.ref a), .val (.long n), .second, .val (.long d), .second, .val (.long g), .second] dprog_17_1_29 rfl ?_
  refine w_lloadN X dprog_17_1_31 rfl ?_
  refine w_lload X dprog_17_1_32 rfl ?_
  refine w_ldiv X dprog_17_1_34 (own_nz gp) ?_
  refine w_lstoreN X #[.val (.ref a), .val (.long (n / g)), .second, .val (.long d), .second, .val (.long g), .second] dprog_17_1_35 rfl ?_
  refine w_lloadN X dprog_17_1_36 rfl ?_
  refine w_lload X dprog_17_1_37 rfl ?_
  refine w_ldiv X dprog_17_1_39 (own_nz gp) ?_
  refine w_lstoreN X #[.val (.ref a), .val (.long (n / g)), .second, .val (.long (d / g)), .second, .val (.long g), .second] dprog_17_1_40 rfl ?_
  refine w_aloadN X dprog_17_1_41 rfl (rfl) ?_
  refine w_lloadN X dprog_17_1_42 rfl ?_
  refine w_putF X dprog_17_1_43 (host := "") (Or.inl (wd_29 hw)) Via.refl Fn Ea (Or.inr ⟨(wd_30 hw), rfl, rfl⟩) (wd_9 hw) (ty := .long) (by decide) rfl rfl ga0 (fun T h3 X W3 => ?_)
  have f1 := Fn.same W3
  refine w_aloadN X dprog_17_1_46 rfl (rfl) ?_
  refine w_lloadN X dprog_17_1_47 rfl ?_
  have f2 := (Ea.wr W3)
  have f3 := (Fd.other W3 (Or.inr (slot_ne (Or.inr (wd_32 hw)) (Or.inr (wd_30 hw)) (by decide) (t := .long) (t' := .long) (by decide) (by decide))))
  refine w_putF X dprog_17_1_48 (host := "") (Or.inl (wd_31 hw)) Via.refl f3 f2 (Or.inr ⟨(wd_32 hw), rfl, rfl⟩) (wd_9 hw) (ty := .long) (by decide) rfl rfl ga0 (fun T h4 X W4 => ?_)
  have f4 := f3.same W4
  have f5 := (f1.other W4 (Or.inr (slot_ne (Or.inr (wd_30 hw)) (Or.inr (wd_32 hw)) (by decide) (t := .long) (t' := .long) (by decide) (by decide))))
  have f6 := (f2.wr W4)
  exact w_retV X dprog_17_1_51 ⟨rfl, _, _, g.toInt, gp, own_quot gp ga, own_quot gp gb, f5, f4, f6, (((Keep.refl h0 [a]).wr W3 (Or.inl (List.mem_cons_self))).wr W4 (Or.inl (List.mem_cons_self)))⟩ (by decide) (by decide)
set_option maxRecDepth 65536 in
set_option maxHeartbeats 40000000 in
theorem m_mh {l : Launch} {Z : State} {a0 : Array Value} {n0 : Nat} (hw : ∀ d ∈ tables_1, d.before a0 Z = true) {h0 : Heap} (x y : Int64)  :
    Does l Z n0 ⟨"java/lang/Math", "multiplyHigh", "(JJ)J"⟩ jdk_29_method_45_code 20 (some .long) [] { frames := 0, cells := 0, slots := 0, locals := 0 } #[(.long x), (.long y)] h0 (fun v h => (∃ r : Int64, v = some (.long r) ∧ r.toInt = x.toInt * y.toInt / 18446744073709551616) ∧ h0 = h) := by
  refine Does.start (Jvm.Free.JP.mathPlain rfl (by decide +kernel)) ?_
  intro p e s m below meth c T X
  replace X : Sd Z n0 0 jdk_29_method_45_code 20 "java/lang/Math" "multiplyHigh" (some .long) h0 p l e { frames := 0, cells := 0, slots := 0, locals := 0 } s m #[(.long x), (.long y)] below meth c T [] 0 0 := X
  refine Wp.cast (g' := mkF m 0 #[.val (.long x), .second, .val (.long y), .second, .unset, .unset, .unset, .unset, .unset, .unset, .unset, .unset, .unset, .unset, .unset, .unset, .unset, .unset, .unset, .unset] []) (by first | (simp [entryFrame, mkF, argsToLocals, Value.category, maxLocals]; done) | rfl) ?_
  refine w_lloadN X djdk_29_45_0 rfl ?_
  refine w_bipush X (32 : Int32) djdk_29_45_1 rfl ?_
  refine w_lshr X djdk_29_45_3 ?_
  refine w_lstore X #[.val (.long x), .second, .val (.long y), .second, .val (.long (x >>> ((32 : Int32) &&& 0x3f).toInt64)), .second, .unset, .unset, .unset, .unset, .unset, .unset, .unset, .unset, .unset, .unset, .unset, .unset, .unset, .unset] djdk_29_45_4 rfl ?_
  refine w_lloadN X djdk_29_45_6 rfl ?_
  refine w_ldc2J X djdk_29_45_7 (wd_56 hw) ?_
  refine w_land X djdk_29_45_10 ?_
  refine w_lstore X #[.val (.long x), .second, .val (.long y), .second, .val (.long (x >>> ((32 : Int32) &&& 0x3f).toInt64)), .second, .val (.long (x &&& (4294967295 : Int64))), .second, .unset, .unset, .unset, .unset, .unset, .unset, .unset, .unset, .unset, .unset, .unset, .unset] djdk_29_45_11 rfl ?_
  refine w_lloadN X djdk_29_45_13 rfl ?_
  refine w_bipush X (32 : Int32) djdk_29_45_14 rfl ?_
  refine w_lshr X djdk_29_45_16 ?_
  refine w_lstore X #[.val (.long x), .second, .val (.long y), .second, .val (.long (x >>> ((32 : Int32) &&& 0x3f).toInt64)), .second, .val (.long (x &&& (4294967295 : Int64))), .second, .val (.long (y >>> ((32 : Int32) &&& 0x3f).toInt64)), .second, .unset, .unset, .unset, .unset, .unset, .unset, .unset, .unset, .unset, .unset] djdk_29_45_17 rfl ?_
  refine w_lloadN X djdk_29_45_19 rfl ?_
  refine w_ldc2J X djdk_29_45_20 (wd_56 hw) ?_
  refine w_land X djdk_29_45_23 ?_
  refine w_lstore X #[.val (.long x), .second, .val (.long y), .second, .val (.long (x >>> ((32 : Int32) &&& 0x3f).toInt64)), .second, .val (.long (x &&& (4294967295 : Int64))), .second, .val (.long (y >>> ((32 : Int32) &&& 0x3f).toInt64)), .second, .val (.long (y &&& (4294967295 : Int64))), .second, .unset, .unset, .unset, .unset, .unset, .unset, .unset, .unset] djdk_29_45_24 rfl ?_
  refine w_lload X djdk_29_45_26 rfl ?_
  refine w_lload X djdk_29_45_28 rfl ?_
  refine w_lmul X djdk_29_45_30 ?_
  refine w_lstore X #[.val (.long x), .second, .val (.long y), .second, .val (.long (x >>> ((32 : Int32) &&& 0x3f).toInt64)), .second, .val (.long (x &&& (4294967295 : Int64))), .second, .val (.long (y >>> ((32 : Int32) &&& 0x3f).toInt64)), .second, .val (.long (y &&& (4294967295 : Int64))), .second, .val (.long ((x &&& (4294967295 : Int64)) * (y &&& (4294967295 : Int64)))), .second, .unset, .unset, .unset, .unset, .unset, .unset] djdk_29_45_31 rfl ?_
  refine w_lload X djdk_29_45_33 rfl ?_
  refine w_lload X djdk_29_45_35 rfl ?_
  refine w_lmul X djdk_29_45_37 ?_
  refine w_lload X djdk_29_45_38 rfl ?_
  refine w_bipush X (32 : Int32) djdk_29_45_40 rfl ?_
  refine w_lushr X djdk_29_45_42 ?_
  refine w_ladd X djdk_29_45_43 ?_
  refine w_lstore X #[.val (.long x), .second, .val (.long y), .second, .val (.long (x >>> ((32 : Int32) &&& 0x3f).toInt64)), .second, .val (.long (x &&& (4294967295 : Int64))), .second, .val (.long (y >>> ((32 : Int32) &&& 0x3f).toInt64)), .second, .val (.long (y &&& (4294967295 : Int64))), .second, .val (.long ((x &&& (4294967295 : Int64)) * (y &&& (4294967295 : Int64)))), .second, .val (.long (((x >>> ((32 : Int32) &&& 0x3f).toInt64) * (y &&& (4294967295 : Int64))) + ((((x &&& (4294967295 : Int64)) * (y &&& (4294967295 : Int64))).toUInt64 >>> ((32 : Int32) &&& 0x3f).toInt64.toUInt64).toInt64))), .second, .unset, .unset, .unset, .unset] djdk_29_45_44 rfl ?_
  refine w_lload X djdk_29_45_46 rfl ?_
  refine w_ldc2J X djdk_29_45_48 (wd_56 hw) ?_
  refine w_land X djdk_29_45_51 ?_
  refine w_lstore X #[.val (.long x), .second, .val (.long y), .second, .val (.long (x >>> ((32 : Int32) &&& 0x3f).toInt64)), .second, .val (.long (x &&& (4294967295 : Int64))), .second, .val (.long (y >>> ((32 : Int32) &&& 0x3f).toInt64)), .second, .val (.long (y &&& (4294967295 : Int64))), .second, .val (.long ((x &&& (4294967295 : Int64)) * (y &&& (4294967295 : Int64)))), .second, .val (.long (((x >>> ((32 : Int32) &&& 0x3f).toInt64) * (y &&& (4294967295 : Int64))) + ((((x &&& (4294967295 : Int64)) * (y &&& (4294967295 : Int64))).toUInt64 >>> ((32 : Int32) &&& 0x3f).toInt64.toUInt64).toInt64))), .second, .val (.long ((((x >>> ((32 : Int32) &&& 0x3f).toInt64) * (y &&& (4294967295 : Int64))) + ((((x &&& (4294967295 : Int64)) * (y &&& (4294967295 : Int64))).toUInt64 >>> ((32 : Int32) &&& 0x3f).toInt64.toUInt64).toInt64)) &&& (4294967295 : Int64))), .second, .unset, .unset] djdk_29_45_52 rfl ?_
  refine w_lload X djdk_29_45_54 rfl ?_
  refine w_bipush X (32 : Int32) djdk_29_45_56 rfl ?_
  refine w_lshr X djdk_29_45_58 ?_
  refine w_lstore X #[.val (.long x), .second, .val (.long y), .second, .val (.long (x >>> ((32 : Int32) &&& 0x3f).toInt64)), .second, .val (.long (x &&& (4294967295 : Int64))), .second, .val (.long (y >>> ((32 : Int32) &&& 0x3f).toInt64)), .second, .val (.long (y &&& (4294967295 : Int64))), .second, .val (.long ((x &&& (4294967295 : Int64)) * (y &&& (4294967295 : Int64)))), .second, .val (.long (((x >>> ((32 : Int32) &&& 0x3f).toInt64) * (y &&& (4294967295 : Int64))) + ((((x &&& (4294967295 : Int64)) * (y &&& (4294967295 : Int64))).toUInt64 >>> ((32 : Int32) &&& 0x3f).toInt64.toUInt64).toInt64))), .second, .val (.long ((((x >>> ((32 : Int32) &&& 0x3f).toInt64) * (y &&& (4294967295 : Int64))) + ((((x &&& (4294967295 : Int64)) * (y &&& (4294967295 : Int64))).toUInt64 >>> ((32 : Int32) &&& 0x3f).toInt64.toUInt64).toInt64)) &&& (4294967295 : Int64))), .second, .val (.long ((((x >>> ((32 : Int32) &&& 0x3f).toInt64) * (y &&& (4294967295 : Int64))) + ((((x &&& (4294967295 : Int64)) * (y &&& (4294967295 : Int64))).toUInt64 >>> ((32 : Int32) &&& 0x3f).toInt64.toUInt64).toInt64)) >>> ((32 : Int32) &&& 0x3f).toInt64)), .second] djdk_29_45_59 rfl ?_
  refine w_lload X djdk_29_45_61 rfl ?_
  refine w_lload X djdk_29_45_63 rfl ?_
  refine w_lload X djdk_29_45_65 rfl ?_
  refine w_lmul X djdk_29_45_67 ?_
  refine w_ladd X djdk_29_45_68 ?_
  refine w_lstore X #[.val (.long x), .second, .val (.long y), .second, .val (.long (x >>> ((32 : Int32) &&& 0x3f).toInt64)), .second, .val (.long (x &&& (4294967295 : Int64))), .second, .val (.long (y >>> ((32 : Int32) &&& 0x3f).toInt64)), .second, .val (.long (y &&& (4294967295 : Int64))), .second, .val (.long ((x &&& (4294967295 : Int64)) * (y &&& (4294967295 : Int64)))), .second, .val (.long (((x >>> ((32 : Int32) &&& 0x3f).toInt64) * (y &&& (4294967295 : Int64))) + ((((x &&& (4294967295 : Int64)) * (y &&& (4294967295 : Int64))).toUInt64 >>> ((32 : Int32) &&& 0x3f).toInt64.toUInt64).toInt64))), .second, .val (.long (((((x >>> ((32 : Int32) &&& 0x3f).toInt64) * (y &&& (4294967295 : Int64))) + ((((x &&& (4294967295 : Int64)) * (y &&& (4294967295 : Int64))).toUInt64 >>> ((32 : Int32) &&& 0x3f).toInt64.toUInt64).toInt64)) &&& (4294967295 : Int64)) + ((x &&& (4294967295 : Int64)) * (y >>> ((32 : Int32) &&& 0x3f).toInt64)))), .second, .val (.long ((((x >>> ((32 : Int32) &&& 0x3f).toInt64) * (y &&& (4294967295 : Int64))) + ((((x &&& (4294967295 : Int64)) * (y &&& (4294967295 : Int64))).toUInt64 >>> ((32 : Int32) &&& 0x3f).toInt64.toUInt64).toInt64)) >>> ((32 : Int32) &&& 0x3f).toInt64)), .second] djdk_29_45_69 rfl ?_
  refine w_lload X djdk_29_45_71 rfl ?_
  refine w_lload X djdk_29_45_73 rfl ?_
  refine w_lmul X djdk_29_45_75 ?_
  refine w_lload X djdk_29_45_76 rfl ?_
  refine w_ladd X djdk_29_45_78 ?_
  refine w_lload X djdk_29_45_79 rfl ?_
  refine w_bipush X (32 : Int32) djdk_29_45_81 rfl ?_
  refine w_lshr X djdk_29_45_83 ?_
  refine w_ladd X djdk_29_45_84 ?_
  exact w_retJ X djdk_29_45_85 ⟨⟨_, rfl, own_mh x y⟩, rfl⟩ (by decide) (by decide)
set_option maxRecDepth 65536 in
set_option maxHeartbeats 40000000 in
theorem m_lc {l : Launch} {Z : State} {a0 : Array Value} {n0 : Nat} (hw : ∀ d ∈ tables_1, d.before a0 Z = true) {h0 : Heap} (x y : Int64)  :
    Does l Z n0 ⟨"java/lang/Long", "compare", "(JJ)I"⟩ jdk_35_method_42_code 4 (some .int) [] { frames := 0, cells := 0, slots := 0, locals := 0 } #[(.long x), (.long y)] h0 (fun v h => v = some (.int (own_cmp x y)) ∧ h0 = h) := by
  refine Does.start (plainFor_of_name pn_3) ?_
  intro p e s m below meth c T X
  replace X : Sd Z n0 0 jdk_35_method_42_code 4 "java/lang/Long" "compare" (some .int) h0 p l e { frames := 0, cells := 0, slots := 0, locals := 0 } s m #[(.long x), (.long y)] below meth c T [] 0 0 := X
  refine Wp.cast (g' := mkF m 0 #[.val (.long x), .second, .val (.long y), .second] []) (by first | (simp [entryFrame, mkF, argsToLocals, Value.category, maxLocals]; done) | rfl) ?_
  refine w_lloadN X djdk_35_42_0 rfl ?_
  refine w_lloadN X djdk_35_42_1 rfl ?_
  refine w_lge X djdk_35_42_2 djdk_35_42_3 (fun (hc3 : ¬ x < y) => ?_) (fun (hc3 : x < y) => ?_)
  · refine w_lloadN X djdk_35_42_10 rfl ?_
    refine w_lloadN X djdk_35_42_11 rfl ?_
    refine w_lne X djdk_35_42_12 djdk_35_42_13 (fun (hc13 : ¬ x = y) => ?_) (fun (hc13 : x = y) => ?_)
    · refine w_iconst X (1 : Int32) djdk_35_42_20 rfl ?_
      exact w_retI X djdk_35_42_21 ⟨by unfold own_cmp; simp only [*, if_true, if_false, Int64.lt_irrefl], rfl⟩ (by decide) (by decide)
    · refine w_iconst X (0 : Int32) djdk_35_42_16 rfl ?_
      refine w_goto X djdk_35_42_17 ?_
      exact w_retI X djdk_35_42_21 ⟨by unfold own_cmp; simp only [*, if_true, if_false, Int64.lt_irrefl], rfl⟩ (by decide) (by decide)
  · refine w_iconst X (-1 : Int32) djdk_35_42_6 rfl ?_
    refine w_goto X djdk_35_42_7 ?_
    exact w_retI X djdk_35_42_21 ⟨by unfold own_cmp; simp only [*, if_true, if_false, Int64.lt_irrefl], rfl⟩ (by decide) (by decide)
set_option maxRecDepth 65536 in
set_option maxHeartbeats 40000000 in
theorem m_lu {l : Launch} {Z : State} {a0 : Array Value} {n0 : Nat} (hw : ∀ d ∈ tables_1, d.before a0 Z = true) {h0 : Heap} (x y : Int64)  :
    Does l Z n0 ⟨"java/lang/Long", "compareUnsigned", "(JJ)I"⟩ jdk_35_method_43_code 4 (some .int) [] { frames := 1, cells := 0, slots := 0, locals := 15 } #[(.long x), (.long y)] h0 (fun v h => v = some (.int (own_cmp (x + (-9223372036854775808 : Int64)) (y + (-9223372036854775808 : Int64)))) ∧ h0 = h) := by
  refine Does.start (plainFor_of_name pn_3) ?_
  intro p e s m below meth c T X
  replace X : Sd Z n0 0 jdk_35_method_43_code 4 "java/lang/Long" "compareUnsigned" (some .int) h0 p l e { frames := 1, cells := 0, slots := 0, locals := 15 } s m #[(.long x), (.long y)] below meth c T [] 0 0 := X
  refine Wp.cast (g' := mkF m 0 #[.val (.long x), .second, .val (.long y), .second] []) (by first | (simp [entryFrame, mkF, argsToLocals, Value.category, maxLocals]; done) | rfl) ?_
  refine w_lloadN X djdk_35_43_0 rfl ?_
  refine w_ldc2J X djdk_35_43_1 (wd_64 hw) ?_
  refine w_ladd X djdk_35_43_4 ?_
  refine w_lloadN X djdk_35_43_5 rfl ?_
  refine w_ldc2J X djdk_35_43_6 (wd_64 hw) ?_
  refine w_ladd X djdk_35_43_9 ?_
  refine w_callS X djdk_35_43_10 (wd_65 hw) (wd_58 hw) (wd_59 hw) (wd_60 hw) (by decide) (argsL := [(.long (x + (-9223372036854775808 : Int64))), (.long (y + (-9223372036854775808 : Int64)))]) (S := []) (m_lc hw (x + (-9223372036854775808 : Int64)) (y + (-9223372036854775808 : Int64))) pd_3 rfl rfl rfl (by decide) (Nat.le_of_ble_eq_true rfl) (by decide) (by decide) (fun T h1 v1 L1 X q1 => ?_)
  obtain ⟨rfl, rfl⟩ := q1
  show Wp p e below _ (T.setTop (mkF m 13 #[.val (.long x), .second, .val (.long y), .second] [(.int (own_cmp (x + (-9223372036854775808 : Int64)) (y + (-9223372036854775808 : Int64))))]))
  exact w_retI X djdk_35_43_13 ⟨rfl, rfl⟩ (by decide) (by decide)
set_option maxRecDepth 65536 in
set_option maxHeartbeats 40000000 in
theorem m_cp {l : Launch} {Z : State} {a0 : Array Value} {n0 : Nat} (hw : ∀ d ∈ tables_1, d.before a0 Z = true) {h0 : Heap} (a b c' d : Int64)  :
    Does l Z n0 ⟨"com/example/flicker/flicker/game/Rational", "compareProducts", "(JJJJ)I"⟩ prog_17_method_6_code 9 (some .int) [] { frames := 2, cells := 0, slots := 0, locals := 33 } #[(.long a), (.long b), (.long c'), (.long d)] h0 (fun v h => (∃ r : Int32, v = some (.int r) ∧ (c'.toInt * d.toInt < a.toInt * b.toInt → 0 < r) ∧ (a.toInt * b.toInt < c'.toInt * d.toInt → r < 0)) ∧ h0 = h) := by
  refine Does.start (plainFor_of_name pn_1) ?_
  intro p e s m below meth c T X
  replace X : Sd Z n0 0 prog_17_method_6_code 9 "com/example/flicker/flicker/game/Rational" "compareProducts" (some .int) h0 p l e { frames := 2, cells := 0, slots := 0, locals := 33 } s m #[(.long a), (.long b), (.long c'), (.long d)] below meth c T [] 0 0 := X
  refine Wp.cast (g' := mkF m 0 #[.val (.long a), .second, .val (.long b), .second, .val (.long c'), .second, .val (.long d), .second, .unset] []) (by first | (simp [entryFrame, mkF, argsToLocals, Value.category, maxLocals]; done) | rfl) ?_
  refine w_lloadN X dprog_17_6_0 rfl ?_
  refine w_lloadN X dprog_17_6_1 rfl ?_
  refine w_callS X dprog_17_6_2 (wd_53 hw) (wd_54 hw) (wd_27 hw) (wd_55 hw) (by decide) (argsL := [(.long a), (.long b)]) (S := []) (m_mh hw a b) pd_2 rfl rfl rfl (by decide) (Nat.le_of_ble_eq_true rfl) (by decide) (by decide) (fun T h1 v1 L1 X q1 => ?_)
  obtain ⟨⟨r1, rfl, e1⟩, rfl⟩ := q1
  show Wp p e below _ (T.setTop (mkF m 5 #[.val (.long a), .second, .val (.long b), .second, .val (.long c'), .second, .val (.long d), .second, .unset] [(.long r1)]))
  refine w_lload X dprog_17_6_5 rfl ?_
  refine w_lload X dprog_17_6_7 rfl ?_
  refine w_callS X dprog_17_6_9 (wd_53 hw) (wd_54 hw) (wd_27 hw) (wd_55 hw) (by decide) (argsL := [(.long c'), (.long d)]) (S := [(.long r1)]) (m_mh hw c' d) pd_2 rfl rfl rfl (by decide) (Nat.le_of_ble_eq_true rfl) (by decide) (by decide) (fun T h2 v2 L2 X q2 => ?_)
  obtain ⟨⟨r2, rfl, e2⟩, rfl⟩ := q2
  show Wp p e below _ (T.setTop (mkF m 12 #[.val (.long a), .second, .val (.long b), .second, .val (.long c'), .second, .val (.long d), .second, .unset] [(.long r2), (.long r1)]))
  refine w_callS X dprog_17_6_12 (wd_57 hw) (wd_58 hw) (wd_59 hw) (wd_60 hw) (by decide) (argsL := [(.long r1), (.long r2)]) (S := []) (m_lc hw r1 r2) pd_3 rfl rfl rfl (by decide) (Nat.le_of_ble_eq_true rfl) (by decide) (by decide) (fun T h3 v3 L3 X q3 => ?_)
  obtain ⟨rfl, rfl⟩ := q3
  show Wp p e below _ (T.setTop (mkF m 15 #[.val (.long a), .second, .val (.long b), .second, .val (.long c'), .second, .val (.long d), .second, .unset] [(.int (own_cmp r1 r2))]))
  refine w_istore X #[.val (.long a), .second, .val (.long b), .second, .val (.long c'), .second, .val (.long d), .second, .val (.int (own_cmp r1 r2))] dprog_17_6_15 rfl ?_
  refine w_iload X dprog_17_6_17 rfl ?_
  refine w_ifne X dprog_17_6_19 (fun (hc19 : ¬ (own_cmp r1 r2) = (0 : Int32)) => ?_) (fun (hc19 : (own_cmp r1 r2) = (0 : Int32)) => ?_)
  · refine w_iload X dprog_17_6_35 rfl ?_
    exact w_retI X dprog_17_6_37 ⟨⟨_, rfl, own_cp1 e1 e2 hc19⟩, rfl⟩ (by decide) (by decide)
  · refine w_lloadN X dprog_17_6_22 rfl ?_
    refine w_lloadN X dprog_17_6_23 rfl ?_
    refine w_lmul X dprog_17_6_24 ?_
    refine w_lload X dprog_17_6_25 rfl ?_
    refine w_lload X dprog_17_6_27 rfl ?_
    refine w_lmul X dprog_17_6_29 ?_
    refine w_callS X dprog_17_6_30 (wd_61 hw) (wd_62 hw) (wd_59 hw) (wd_63 hw) (by decide) (argsL := [(.long (a * b)), (.long (c' * d))]) (S := []) (m_lu hw (a * b) (c' * d)) pd_3 rfl rfl rfl (by decide) (Nat.le_of_ble_eq_true rfl) (by decide) (by decide) (fun T h4 v4 L4 X q4 => ?_)
    obtain ⟨rfl, rfl⟩ := q4
    show Wp p e below _ (T.setTop (mkF m 33 #[.val (.long a), .second, .val (.long b), .second, .val (.long c'), .second, .val (.long d), .second, .val (.int (own_cmp r1 r2))] [(.int (own_cmp ((a * b) + (-9223372036854775808 : Int64)) ((c' * d) + (-9223372036854775808 : Int64))))]))
    refine w_istore X #[.val (.long a), .second, .val (.long b), .second, .val (.long c'), .second, .val (.long d), .second, .val (.int (own_cmp ((a * b) + (-9223372036854775808 : Int64)) ((c' * d) + (-9223372036854775808 : Int64))))] dprog_17_6_33 rfl ?_
    refine w_iload X dprog_17_6_35 rfl ?_
    exact w_retI X dprog_17_6_37 ⟨⟨_, rfl, own_cp2 e1 e2 hc19⟩, rfl⟩ (by decide) (by decide)
set_option maxRecDepth 65536 in
set_option maxHeartbeats 40000000 in
theorem m_ct {l : Launch} {Z : State} {a0 : Array Value} {n0 : Nat} (hw : ∀ d ∈ tables_1, d.before a0 Z = true) {h0 : Heap} {a b : Addr} {n1 d1 n2 d2 : Int64} (Fn1 : Fld Z h0 a "com/example/flicker/flicker/game/Rational" "numerator" "J" (.long n1)) (Fd1 : Fld Z h0 a "com/example/flicker/flicker/game/Rational" "denominator" "J" (.long d1)) (Fn2 : Fld Z h0 b "com/example/flicker/flicker/game/Rational" "numerator" "J" (.long n2)) (Fd2 : Fld Z h0 b "com/example/flicker/flicker/game/Rational" "denominator" "J" (.long d2)) :
    Does l Z n0 ⟨"com/example/flicker/flicker/game/Rational", "compareTo", "(Lcom/example/flicker/flicker/game/Rational;)I"⟩ prog_17_method_3_code 2 (some .int) [] { frames := 3, cells := 0, slots := 0, locals := 53 } #[(.ref a), (.ref b)] h0 (fun v h => (∃ r : Int32, v = some (.int r) ∧ (n2.toInt * d1.toInt < n1.toInt * d2.toInt → 0 < r) ∧ (n1.toInt * d2.toInt < n2.toInt * d1.toInt → r < 0)) ∧ h0 = h) := by
  refine Does.start (plainFor_of_name pn_1) ?_
  intro p e s m below meth c T X
  replace X : Sd Z n0 0 prog_17_method_3_code 2 "com/example/flicker/flicker/game/Rational" "compareTo" (some .int) h0 p l e { frames := 3, cells := 0, slots := 0, locals := 53 } s m #[(.ref a), (.ref b)] below meth c T [] 0 0 := X
  refine Wp.cast (g' := mkF m 0 #[.val (.ref a), .val (.ref b)] []) (by first | (simp [entryFrame, mkF, argsToLocals, Value.category, maxLocals]; done) | rfl) ?_
  refine w_aloadN X dprog_17_3_0 rfl (rfl) ?_
  refine w_getF X dprog_17_3_1 (host := "") (Or.inl (wd_29 hw)) Via.refl Fn1 (fun T X => ?_)
  refine w_aloadN X dprog_17_3_4 rfl (rfl) ?_
  refine w_getF X dprog_17_3_5 (host := "") (Or.inl (wd_31 hw)) Via.refl Fd2 (fun T X => ?_)
  refine w_aloadN X dprog_17_3_8 rfl (rfl) ?_
  refine w_getF X dprog_17_3_9 (host := "") (Or.inl (wd_29 hw)) Via.refl Fn2 (fun T X => ?_)
  refine w_aloadN X dprog_17_3_12 rfl (rfl) ?_
  refine w_getF X dprog_17_3_13 (host := "") (Or.inl (wd_31 hw)) Via.refl Fd1 (fun T X => ?_)
  refine w_callS X dprog_17_3_16 (wd_50 hw) (wd_51 hw) (wd_10 hw) (wd_52 hw) (by decide) (argsL := [(.long n1), (.long d2), (.long n2), (.long d1)]) (S := []) (m_cp hw n1 d2 n2 d1) pd_4 rfl rfl rfl (by decide) (Nat.le_of_ble_eq_true rfl) (by decide) (by decide) (fun T h1 v1 L1 X q1 => ?_)
  obtain ⟨⟨r, rfl, r1, r2⟩, rfl⟩ := q1
  show Wp p e below _ (T.setTop (mkF m 19 #[.val (.ref a), .val (.ref b)] [(.int r)]))
  exact w_retI X dprog_17_3_19 ⟨⟨_, rfl, r1, r2⟩, rfl⟩ (by decide) (by decide)
set_option maxRecDepth 65536 in
set_option maxHeartbeats 40000000 in
theorem m_ord {l : Launch} {Z : State} {a0 : Array Value} {n0 : Nat} (hw : ∀ d ∈ tables_1, d.before a0 Z = true) {h0 : Heap} {a : Addr} {o : Int32} (F : Fld Z h0 a "java/lang/Enum" "ordinal" "I" (.int o)) :
    Does l Z n0 ⟨"java/lang/Enum", "ordinal", "()I"⟩ jdk_37_method_2_code 1 (some .int) [] { frames := 0, cells := 0, slots := 0, locals := 0 } #[(.ref a)] h0 (fun v h => v = some (.int o) ∧ h0 = h) := by
  refine Does.start (plainFor_of_name pn_4) ?_
  intro p e s m below meth c T X
  replace X : Sd Z n0 0 jdk_37_method_2_code 1 "java/lang/Enum" "ordinal" (some .int) h0 p l e { frames := 0, cells := 0, slots := 0, locals := 0 } s m #[(.ref a)] below meth c T [] 0 0 := X
  refine Wp.cast (g' := mkF m 0 #[.val (.ref a)] []) (by first | (simp [entryFrame, mkF, argsToLocals, Value.category, maxLocals]; done) | rfl) ?_
  refine w_aloadN X djdk_37_2_0 rfl (rfl) ?_
  refine w_getF X djdk_37_2_1 (host := "") (Or.inl (wd_73 hw)) Via.refl F (fun T X => ?_)
  exact w_retI X djdk_37_2_4 ⟨rfl, rfl⟩ (by decide) (by decide)
set_option maxRecDepth 65536 in
set_option maxHeartbeats 40000000 in
theorem m_bbsA {l : Launch} {Z : State} {a0 : Array Value} {n0 : Nat} (hw : ∀ d ∈ tables_1, d.before a0 Z = true) {h0 : Heap} {sA sB sC sE : Addr} (S_sA : Sta Z Z.heap "com/example/flicker/flicker/game/Relation" "AT_LEAST" "Lcom/example/flicker/flicker/game/Relation;" (.ref sA)) (E_sA : Exa Z Z.heap sA "com/example/flicker/flicker/game/Relation") (O_sA : Fld Z Z.heap sA "java/lang/Enum" "ordinal" "I" (.int (0 : Int32))) (S_sB : Sta Z Z.heap "com/example/flicker/flicker/game/Relation" "ABOVE" "Lcom/example/flicker/flicker/game/Relation;" (.ref sB)) (E_sB : Exa Z Z.heap sB "com/example/flicker/flicker/game/Relation") (O_sB : Fld Z Z.heap sB "java/lang/Enum" "ordinal" "I" (.int (1 : Int32))) (S_sC : Sta Z Z.heap "com/example/flicker/flicker/game/Relation" "AT_MOST" "Lcom/example/flicker/flicker/game/Relation;" (.ref sC)) (E_sC : Exa Z Z.heap sC "com/example/flicker/flicker/game/Relation") (O_sC : Fld Z Z.heap sC "java/lang/Enum" "ordinal" "I" (.int (2 : Int32))) (S_sE : Sta Z Z.heap "com/example/flicker/flicker/game/Relation" "BELOW" "Lcom/example/flicker/flicker/game/Relation;" (.ref sE)) (E_sE : Exa Z Z.heap sE "com/example/flicker/flicker/game/Relation") (O_sE : Fld Z Z.heap sE "java/lang/Enum" "ordinal" "I" (.int (3 : Int32))) :
    Does l Z n0 ⟨"com/example/flicker/flicker/game/Relation", "boundsBelow", "()Z"⟩ prog_18_method_5_code 1 (some .boolean) [] { frames := 0, cells := 0, slots := 0, locals := 0 } #[(.ref sA)] h0 (fun v h => v = some (.int 1) ∧ h0 = h) := by
  refine Does.start (plainFor_of_name pn_5) ?_
  intro p e s m below meth c T X
  replace X : Sd Z n0 0 prog_18_method_5_code 1 "com/example/flicker/flicker/game/Relation" "boundsBelow" (some .boolean) h0 p l e { frames := 0, cells := 0, slots := 0, locals := 0 } s m #[(.ref sA)] below meth c T [] 0 0 := X
  refine Wp.cast (g' := mkF m 0 #[.val (.ref sA)] []) (by first | (simp [entryFrame, mkF, argsToLocals, Value.category, maxLocals]; done) | rfl) ?_
  refine w_aloadN X dprog_18_5_0 rfl (rfl) ?_
  refine w_getS X dprog_18_5_1 (host := "") (Or.inl (wd_39 hw)) Via.refl (S_sA.ext X.old.2) (fun T X => ?_)
  refine w_acmpeq X (rfl) (rfl) dprog_18_5_4 (fun _ => ?_) (fun hc => absurd rfl hc)
  refine w_iconst X (1 : Int32) dprog_18_5_14 rfl ?_
  refine w_goto X dprog_18_5_15 ?_
  exact w_ret_boolean X (1 : Int32) (by decide) dprog_18_5_19 ⟨rfl, rfl⟩ (by decide) (by decide)
set_option maxRecDepth 65536 in
set_option maxHeartbeats 40000000 in
theorem m_hosA_gt {l : Launch} {Z : State} {a0 : Array Value} {n0 : Nat} (hw : ∀ d ∈ tables_1, d.before a0 Z = true) {h0 : Heap} {sA sB sC sE : Addr} {a b : Addr} {n1 d1 n2 d2 : Int64} (S_sA : Sta Z Z.heap "com/example/flicker/flicker/game/Relation" "AT_LEAST" "Lcom/example/flicker/flicker/game/Relation;" (.ref sA)) (E_sA : Exa Z Z.heap sA "com/example/flicker/flicker/game/Relation") (O_sA : Fld Z Z.heap sA "java/lang/Enum" "ordinal" "I" (.int (0 : Int32))) (S_sB : Sta Z Z.heap "com/example/flicker/flicker/game/Relation" "ABOVE" "Lcom/example/flicker/flicker/game/Relation;" (.ref sB)) (E_sB : Exa Z Z.heap sB "com/example/flicker/flicker/game/Relation") (O_sB : Fld Z Z.heap sB "java/lang/Enum" "ordinal" "I" (.int (1 : Int32))) (S_sC : Sta Z Z.heap "com/example/flicker/flicker/game/Relation" "AT_MOST" "Lcom/example/flicker/flicker/game/Relation;" (.ref sC)) (E_sC : Exa Z Z.heap sC "com/example/flicker/flicker/game/Relation") (O_sC : Fld Z Z.heap sC "java/lang/Enum" "ordinal" "I" (.int (2 : Int32))) (S_sE : Sta Z Z.heap "com/example/flicker/flicker/game/Relation" "BELOW" "Lcom/example/flicker/flicker/game/Relation;" (.ref sE)) (E_sE : Exa Z Z.heap sE "com/example/flicker/flicker/game/Relation") (O_sE : Fld Z Z.heap sE "java/lang/Enum" "ordinal" "I" (.int (3 : Int32))) (Ea : Exa Z h0 a "com/example/flicker/flicker/game/Rational") (Fn1 : Fld Z h0 a "com/example/flicker/flicker/game/Rational" "numerator" "J" (.long n1)) (Fd1 : Fld Z h0 a "com/example/flicker/flicker/game/Rational" "denominator" "J" (.long d1)) (Fn2 : Fld Z h0 b "com/example/flicker/flicker/game/Rational" "numerator" "J" (.long n2)) (Fd2 : Fld Z h0 b "com/example/flicker/flicker/game/Rational" "denominator" "J" (.long d2)) (hp : n2.toInt * d1.toInt < n1.toInt * d2.toInt) :
    Does l Z n0 ⟨"com/example/flicker/flicker/game/Relation", "holds", "(Lcom/example/flicker/flicker/game/Rational;Lcom/example/flicker/flicker/game/Rational;)Z"⟩ prog_18_method_6_code 5 (some .boolean) [] { frames := 4, cells := 0, slots := 0, locals := 66 } #[(.ref sA), (.ref a), (.ref b)] h0 (fun v h => v = some (.int 1) ∧ h0 = h) := by
  refine Does.start (plainFor_of_name pn_5) ?_
  intro p e s m below meth c T X
  replace X : Sd Z n0 0 prog_18_method_6_code 5 "com/example/flicker/flicker/game/Relation" "holds" (some .boolean) h0 p l e { frames := 4, cells := 0, slots := 0, locals := 66 } s m #[(.ref sA), (.ref a), (.ref b)] below meth c T [] 0 0 := X
  refine Wp.cast (g' := mkF m 0 #[.val (.ref sA), .val (.ref a), .val (.ref b), .unset, .unset] []) (by first | (simp [entryFrame, mkF, argsToLocals, Value.category, maxLocals]; done) | rfl) ?_
  refine w_aloadN X dprog_18_6_0 rfl (rfl) ?_
  refine w_aloadN X dprog_18_6_1 rfl (rfl) ?_
  refine w_callV X dprog_18_6_2 (wd_45 hw) (wd_46 hw) (notFace_of_selects (args := #[]) (mvT X.hZ (wd_48 hw))) (wd_48 hw) (wd_47 hw) (wd_10 hw) (wd_49 hw) (by decide) Ea (argsL := [(.ref b)]) (S := []) (m_ct hw Fn1 Fd1 Fn2 Fd2) pd_5 rfl rfl rfl (by decide) (Nat.le_of_ble_eq_true rfl) (by decide) (by decide) (fun T h1 v1 L1 X q1 => ?_)
  obtain ⟨⟨r, rfl, r1, r2⟩, rfl⟩ := q1
  show Wp p e below _ (T.setTop (mkF m 5 #[.val (.ref sA), .val (.ref a), .val (.ref b), .unset, .unset] [(.int r)]))
  refine w_istoreN X #[.val (.ref sA), .val (.ref a), .val (.ref b), .val (.int r), .unset] dprog_18_6_5 rfl ?_
  refine w_aloadN X dprog_18_6_6 rfl (rfl) ?_
  refine w_callU X dprog_18_6_7 (wd_66 hw) (wd_67 hw) (wd_68 hw) (by decide) (wd_70 hw) (wd_69 hw) (wd_71 hw) (wd_72 hw) (E_sA.ext X.old.2) (argsL := []) (S := []) (m_ord hw (O_sA.ext X.old.2)) pd_6 rfl rfl rfl (by decide) (Nat.le_of_ble_eq_true rfl) (by decide) (by decide) (fun T h2 v2 L2 X q2 => ?_)
  obtain ⟨rfl, rfl⟩ := q2
  show Wp p e below _ (T.setTop (mkF m 10 #[.val (.ref sA), .val (.ref a), .val (.ref b), .val (.int r), .unset] [(.int (0 : Int32))]))
  refine w_tsw X dprog_18_6_10 (by decide) (o := 40) (by decide) (by decide) (t := 50) (by decide) ?_
  refine w_iloadN X dprog_18_6_50 rfl ?_
  refine w_iflt X dprog_18_6_51 (fun hc => absurd hc (Int32.lt_asymm (r1 hp))) (fun _ => ?_)
  refine w_iconst X (1 : Int32) dprog_18_6_54 rfl ?_
  refine w_goto X dprog_18_6_55 ?_
  refine w_istore X #[.val (.ref sA), .val (.ref a), .val (.ref b), .val (.int r), .val (.int (1 : Int32))] dprog_18_6_95 rfl ?_
  refine w_iload X dprog_18_6_97 rfl ?_
  exact w_ret_boolean X (1 : Int32) (by decide) dprog_18_6_99 ⟨rfl, rfl⟩ (by decide) (by decide)
set_option maxRecDepth 65536 in
set_option maxHeartbeats 40000000 in
theorem m_hosA_lt {l : Launch} {Z : State} {a0 : Array Value} {n0 : Nat} (hw : ∀ d ∈ tables_1, d.before a0 Z = true) {h0 : Heap} {sA sB sC sE : Addr} {a b : Addr} {n1 d1 n2 d2 : Int64} (S_sA : Sta Z Z.heap "com/example/flicker/flicker/game/Relation" "AT_LEAST" "Lcom/example/flicker/flicker/game/Relation;" (.ref sA)) (E_sA : Exa Z Z.heap sA "com/example/flicker/flicker/game/Relation") (O_sA : Fld Z Z.heap sA "java/lang/Enum" "ordinal" "I" (.int (0 : Int32))) (S_sB : Sta Z Z.heap "com/example/flicker/flicker/game/Relation" "ABOVE" "Lcom/example/flicker/flicker/game/Relation;" (.ref sB)) (E_sB : Exa Z Z.heap sB "com/example/flicker/flicker/game/Relation") (O_sB : Fld Z Z.heap sB "java/lang/Enum" "ordinal" "I" (.int (1 : Int32))) (S_sC : Sta Z Z.heap "com/example/flicker/flicker/game/Relation" "AT_MOST" "Lcom/example/flicker/flicker/game/Relation;" (.ref sC)) (E_sC : Exa Z Z.heap sC "com/example/flicker/flicker/game/Relation") (O_sC : Fld Z Z.heap sC "java/lang/Enum" "ordinal" "I" (.int (2 : Int32))) (S_sE : Sta Z Z.heap "com/example/flicker/flicker/game/Relation" "BELOW" "Lcom/example/flicker/flicker/game/Relation;" (.ref sE)) (E_sE : Exa Z Z.heap sE "com/example/flicker/flicker/game/Relation") (O_sE : Fld Z Z.heap sE "java/lang/Enum" "ordinal" "I" (.int (3 : Int32))) (Ea : Exa Z h0 a "com/example/flicker/flicker/game/Rational") (Fn1 : Fld Z h0 a "com/example/flicker/flicker/game/Rational" "numerator" "J" (.long n1)) (Fd1 : Fld Z h0 a "com/example/flicker/flicker/game/Rational" "denominator" "J" (.long d1)) (Fn2 : Fld Z h0 b "com/example/flicker/flicker/game/Rational" "numerator" "J" (.long n2)) (Fd2 : Fld Z h0 b "com/example/flicker/flicker/game/Rational" "denominator" "J" (.long d2)) (hp : n1.toInt * d2.toInt < n2.toInt * d1.toInt) :
    Does l Z n0 ⟨"com/example/flicker/flicker/game/Relation", "holds", "(Lcom/example/flicker/flicker/game/Rational;Lcom/example/flicker/flicker/game/Rational;)Z"⟩ prog_18_method_6_code 5 (some .boolean) [] { frames := 4, cells := 0, slots := 0, locals := 66 } #[(.ref sA), (.ref a), (.ref b)] h0 (fun v h => v = some (.int 0) ∧ h0 = h) := by
  refine Does.start (plainFor_of_name pn_5) ?_
  intro p e s m below meth c T X
  replace X : Sd Z n0 0 prog_18_method_6_code 5 "com/example/flicker/flicker/game/Relation" "holds" (some .boolean) h0 p l e { frames := 4, cells := 0, slots := 0, locals := 66 } s m #[(.ref sA), (.ref a), (.ref b)] below meth c T [] 0 0 := X
  refine Wp.cast (g' := mkF m 0 #[.val (.ref sA), .val (.ref a), .val (.ref b), .unset, .unset] []) (by first | (simp [entryFrame, mkF, argsToLocals, Value.category, maxLocals]; done) | rfl) ?_
  refine w_aloadN X dprog_18_6_0 rfl (rfl) ?_
  refine w_aloadN X dprog_18_6_1 rfl (rfl) ?_
  refine w_callV X dprog_18_6_2 (wd_45 hw) (wd_46 hw) (notFace_of_selects (args := #[]) (mvT X.hZ (wd_48 hw))) (wd_48 hw) (wd_47 hw) (wd_10 hw) (wd_49 hw) (by decide) Ea (argsL := [(.ref b)]) (S := []) (m_ct hw Fn1 Fd1 Fn2 Fd2) pd_5 rfl rfl rfl (by decide) (Nat.le_of_ble_eq_true rfl) (by decide) (by decide) (fun T h1 v1 L1 X q1 => ?_)
  obtain ⟨⟨r, rfl, r1, r2⟩, rfl⟩ := q1
  show Wp p e below _ (T.setTop (mkF m 5 #[.val (.ref sA), .val (.ref a), .val (.ref b), .unset, .unset] [(.int r)]))
  refine w_istoreN X #[.val (.ref sA), .val (.ref a), .val (.ref b), .val (.int r), .unset] dprog_18_6_5 rfl ?_
  refine w_aloadN X dprog_18_6_6 rfl (rfl) ?_
  refine w_callU X dprog_18_6_7 (wd_66 hw) (wd_67 hw) (wd_68 hw) (by decide) (wd_70 hw) (wd_69 hw) (wd_71 hw) (wd_72 hw) (E_sA.ext X.old.2) (argsL := []) (S := []) (m_ord hw (O_sA.ext X.old.2)) pd_6 rfl rfl rfl (by decide) (Nat.le_of_ble_eq_true rfl) (by decide) (by decide) (fun T h2 v2 L2 X q2 => ?_)
  obtain ⟨rfl, rfl⟩ := q2
  show Wp p e below _ (T.setTop (mkF m 10 #[.val (.ref sA), .val (.ref a), .val (.ref b), .val (.int r), .unset] [(.int (0 : Int32))]))
  refine w_tsw X dprog_18_6_10 (by decide) (o := 40) (by decide) (by decide) (t := 50) (by decide) ?_
  refine w_iloadN X dprog_18_6_50 rfl ?_
  refine w_iflt X dprog_18_6_51 (fun _ => ?_) (fun hc => absurd (r2 hp) hc)
  refine w_iconst X (0 : Int32) dprog_18_6_58 rfl ?_
  refine w_goto X dprog_18_6_59 ?_
  refine w_istore X #[.val (.ref sA), .val (.ref a), .val (.ref b), .val (.int r), .val (.int (0 : Int32))] dprog_18_6_95 rfl ?_
  refine w_iload X dprog_18_6_97 rfl ?_
  exact w_ret_boolean X (0 : Int32) (by decide) dprog_18_6_99 ⟨rfl, rfl⟩ (by decide) (by decide)
set_option maxRecDepth 65536 in
set_option maxHeartbeats 40000000 in
theorem m_bbsB {l : Launch} {Z : State} {a0 : Array Value} {n0 : Nat} (hw : ∀ d ∈ tables_1, d.before a0 Z = true) {h0 : Heap} {sA sB sC sE : Addr} (S_sA : Sta Z Z.heap "com/example/flicker/flicker/game/Relation" "AT_LEAST" "Lcom/example/flicker/flicker/game/Relation;" (.ref sA)) (E_sA : Exa Z Z.heap sA "com/example/flicker/flicker/game/Relation") (O_sA : Fld Z Z.heap sA "java/lang/Enum" "ordinal" "I" (.int (0 : Int32))) (S_sB : Sta Z Z.heap "com/example/flicker/flicker/game/Relation" "ABOVE" "Lcom/example/flicker/flicker/game/Relation;" (.ref sB)) (E_sB : Exa Z Z.heap sB "com/example/flicker/flicker/game/Relation") (O_sB : Fld Z Z.heap sB "java/lang/Enum" "ordinal" "I" (.int (1 : Int32))) (S_sC : Sta Z Z.heap "com/example/flicker/flicker/game/Relation" "AT_MOST" "Lcom/example/flicker/flicker/game/Relation;" (.ref sC)) (E_sC : Exa Z Z.heap sC "com/example/flicker/flicker/game/Relation") (O_sC : Fld Z Z.heap sC "java/lang/Enum" "ordinal" "I" (.int (2 : Int32))) (S_sE : Sta Z Z.heap "com/example/flicker/flicker/game/Relation" "BELOW" "Lcom/example/flicker/flicker/game/Relation;" (.ref sE)) (E_sE : Exa Z Z.heap sE "com/example/flicker/flicker/game/Relation") (O_sE : Fld Z Z.heap sE "java/lang/Enum" "ordinal" "I" (.int (3 : Int32))) :
    Does l Z n0 ⟨"com/example/flicker/flicker/game/Relation", "boundsBelow", "()Z"⟩ prog_18_method_5_code 1 (some .boolean) [] { frames := 0, cells := 0, slots := 0, locals := 0 } #[(.ref sB)] h0 (fun v h => v = some (.int 1) ∧ h0 = h) := by
  refine Does.start (plainFor_of_name pn_5) ?_
  intro p e s m below meth c T X
  replace X : Sd Z n0 0 prog_18_method_5_code 1 "com/example/flicker/flicker/game/Relation" "boundsBelow" (some .boolean) h0 p l e { frames := 0, cells := 0, slots := 0, locals := 0 } s m #[(.ref sB)] below meth c T [] 0 0 := X
  refine Wp.cast (g' := mkF m 0 #[.val (.ref sB)] []) (by first | (simp [entryFrame, mkF, argsToLocals, Value.category, maxLocals]; done) | rfl) ?_
  refine w_aloadN X dprog_18_5_0 rfl (rfl) ?_
  refine w_getS X dprog_18_5_1 (host := "") (Or.inl (wd_39 hw)) Via.refl (S_sA.ext X.old.2) (fun T X => ?_)
  refine w_acmpeq X (rfl) (rfl) dprog_18_5_4 (fun hc => absurd hc (fun q => own_ne O_sB O_sA (by decide) (Value.ref.inj q))) (fun _ => ?_)
  refine w_aloadN X dprog_18_5_7 rfl (rfl) ?_
  refine w_getS X dprog_18_5_8 (host := "") (Or.inl (wd_77 hw)) Via.refl (S_sB.ext X.old.2) (fun T X => ?_)
  refine w_acmpne X (rfl) (rfl) dprog_18_5_11 (fun hc => absurd rfl hc) (fun _ => ?_)
  refine w_iconst X (1 : Int32) dprog_18_5_14 rfl ?_
  refine w_goto X dprog_18_5_15 ?_
  exact w_ret_boolean X (1 : Int32) (by decide) dprog_18_5_19 ⟨rfl, rfl⟩ (by decide) (by decide)
set_option maxRecDepth 65536 in
set_option maxHeartbeats 40000000 in
theorem m_hosB_gt {l : Launch} {Z : State} {a0 : Array Value} {n0 : Nat} (hw : ∀ d ∈ tables_1, d.before a0 Z = true) {h0 : Heap} {sA sB sC sE : Addr} {a b : Addr} {n1 d1 n2 d2 : Int64} (S_sA : Sta Z Z.heap "com/example/flicker/flicker/game/Relation" "AT_LEAST" "Lcom/example/flicker/flicker/game/Relation;" (.ref sA)) (E_sA : Exa Z Z.heap sA "com/example/flicker/flicker/game/Relation") (O_sA : Fld Z Z.heap sA "java/lang/Enum" "ordinal" "I" (.int (0 : Int32))) (S_sB : Sta Z Z.heap "com/example/flicker/flicker/game/Relation" "ABOVE" "Lcom/example/flicker/flicker/game/Relation;" (.ref sB)) (E_sB : Exa Z Z.heap sB "com/example/flicker/flicker/game/Relation") (O_sB : Fld Z Z.heap sB "java/lang/Enum" "ordinal" "I" (.int (1 : Int32))) (S_sC : Sta Z Z.heap "com/example/flicker/flicker/game/Relation" "AT_MOST" "Lcom/example/flicker/flicker/game/Relation;" (.ref sC)) (E_sC : Exa Z Z.heap sC "com/example/flicker/flicker/game/Relation") (O_sC : Fld Z Z.heap sC "java/lang/Enum" "ordinal" "I" (.int (2 : Int32))) (S_sE : Sta Z Z.heap "com/example/flicker/flicker/game/Relation" "BELOW" "Lcom/example/flicker/flicker/game/Relation;" (.ref sE)) (E_sE : Exa Z Z.heap sE "com/example/flicker/flicker/game/Relation") (O_sE : Fld Z Z.heap sE "java/lang/Enum" "ordinal" "I" (.int (3 : Int32))) (Ea : Exa Z h0 a "com/example/flicker/flicker/game/Rational") (Fn1 : Fld Z h0 a "com/example/flicker/flicker/game/Rational" "numerator" "J" (.long n1)) (Fd1 : Fld Z h0 a "com/example/flicker/flicker/game/Rational" "denominator" "J" (.long d1)) (Fn2 : Fld Z h0 b "com/example/flicker/flicker/game/Rational" "numerator" "J" (.long n2)) (Fd2 : Fld Z h0 b "com/example/flicker/flicker/game/Rational" "denominator" "J" (.long d2)) (hp : n2.toInt * d1.toInt < n1.toInt * d2.toInt) :
    Does l Z n0 ⟨"com/example/flicker/flicker/game/Relation", "holds", "(Lcom/example/flicker/flicker/game/Rational;Lcom/example/flicker/flicker/game/Rational;)Z"⟩ prog_18_method_6_code 5 (some .boolean) [] { frames := 4, cells := 0, slots := 0, locals := 66 } #[(.ref sB), (.ref a), (.ref b)] h0 (fun v h => v = some (.int 1) ∧ h0 = h) := by
  refine Does.start (plainFor_of_name pn_5) ?_
  intro p e s m below meth c T X
  replace X : Sd Z n0 0 prog_18_method_6_code 5 "com/example/flicker/flicker/game/Relation" "holds" (some .boolean) h0 p l e { frames := 4, cells := 0, slots := 0, locals := 66 } s m #[(.ref sB), (.ref a), (.ref b)] below meth c T [] 0 0 := X
  refine Wp.cast (g' := mkF m 0 #[.val (.ref sB), .val (.ref a), .val (.ref b), .unset, .unset] []) (by first | (simp [entryFrame, mkF, argsToLocals, Value.category, maxLocals]; done) | rfl) ?_
  refine w_aloadN X dprog_18_6_0 rfl (rfl) ?_
  refine w_aloadN X dprog_18_6_1 rfl (rfl) ?_
  refine w_callV X dprog_18_6_2 (wd_45 hw) (wd_46 hw) (notFace_of_selects (args := #[]) (mvT X.hZ (wd_48 hw))) (wd_48 hw) (wd_47 hw) (wd_10 hw) (wd_49 hw) (by decide) Ea (argsL := [(.ref b)]) (S := []) (m_ct hw Fn1 Fd1 Fn2 Fd2) pd_5 rfl rfl rfl (by decide) (Nat.le_of_ble_eq_true rfl) (by decide) (by decide) (fun T h1 v1 L1 X q1 => ?_)
  obtain ⟨⟨r, rfl, r1, r2⟩, rfl⟩ := q1
  show Wp p e below _ (T.setTop (mkF m 5 #[.val (.ref sB), .val (.ref a), .val (.ref b), .unset, .unset] [(.int r)]))
  refine w_istoreN X #[.val (.ref sB), .val (.ref a), .val (.ref b), .val (.int r), .unset] dprog_18_6_5 rfl ?_
  refine w_aloadN X dprog_18_6_6 rfl (rfl) ?_
  refine w_callU X dprog_18_6_7 (wd_66 hw) (wd_67 hw) (wd_68 hw) (by decide) (wd_70 hw) (wd_69 hw) (wd_71 hw) (wd_72 hw) (E_sB.ext X.old.2) (argsL := []) (S := []) (m_ord hw (O_sB.ext X.old.2)) pd_6 rfl rfl rfl (by decide) (Nat.le_of_ble_eq_true rfl) (by decide) (by decide) (fun T h2 v2 L2 X q2 => ?_)
  obtain ⟨rfl, rfl⟩ := q2
  show Wp p e below _ (T.setTop (mkF m 10 #[.val (.ref sB), .val (.ref a), .val (.ref b), .val (.int r), .unset] [(.int (1 : Int32))]))
  refine w_tsw X dprog_18_6_10 (by decide) (o := 52) (by decide) (by decide) (t := 62) (by decide) ?_
  refine w_iloadN X dprog_18_6_62 rfl ?_
  refine w_ifle X dprog_18_6_63 (fun hc => absurd (r1 hp) hc) (fun _ => ?_)
  refine w_iconst X (1 : Int32) dprog_18_6_66 rfl ?_
  refine w_goto X dprog_18_6_67 ?_
  refine w_istore X #[.val (.ref sB), .val (.ref a), .val (.ref b), .val (.int r), .val (.int (1 : Int32))] dprog_18_6_95 rfl ?_
  refine w_iload X dprog_18_6_97 rfl ?_
  exact w_ret_boolean X (1 : Int32) (by decide) dprog_18_6_99 ⟨rfl, rfl⟩ (by decide) (by decide)
set_option maxRecDepth 65536 in
set_option maxHeartbeats 40000000 in
theorem m_hosB_lt {l : Launch} {Z : State} {a0 : Array Value} {n0 : Nat} (hw : ∀ d ∈ tables_1, d.before a0 Z = true) {h0 : Heap} {sA sB sC sE : Addr} {a b : Addr} {n1 d1 n2 d2 : Int64} (S_sA : Sta Z Z.heap "com/example/flicker/flicker/game/Relation" "AT_LEAST" "Lcom/example/flicker/flicker/game/Relation;" (.ref sA)) (E_sA : Exa Z Z.heap sA "com/example/flicker/flicker/game/Relation") (O_sA : Fld Z Z.heap sA "java/lang/Enum" "ordinal" "I" (.int (0 : Int32))) (S_sB : Sta Z Z.heap "com/example/flicker/flicker/game/Relation" "ABOVE" "Lcom/example/flicker/flicker/game/Relation;" (.ref sB)) (E_sB : Exa Z Z.heap sB "com/example/flicker/flicker/game/Relation") (O_sB : Fld Z Z.heap sB "java/lang/Enum" "ordinal" "I" (.int (1 : Int32))) (S_sC : Sta Z Z.heap "com/example/flicker/flicker/game/Relation" "AT_MOST" "Lcom/example/flicker/flicker/game/Relation;" (.ref sC)) (E_sC : Exa Z Z.heap sC "com/example/flicker/flicker/game/Relation") (O_sC : Fld Z Z.heap sC "java/lang/Enum" "ordinal" "I" (.int (2 : Int32))) (S_sE : Sta Z Z.heap "com/example/flicker/flicker/game/Relation" "BELOW" "Lcom/example/flicker/flicker/game/Relation;" (.ref sE)) (E_sE : Exa Z Z.heap sE "com/example/flicker/flicker/game/Relation") (O_sE : Fld Z Z.heap sE "java/lang/Enum" "ordinal" "I" (.int (3 : Int32))) (Ea : Exa Z h0 a "com/example/flicker/flicker/game/Rational") (Fn1 : Fld Z h0 a "com/example/flicker/flicker/game/Rational" "numerator" "J" (.long n1)) (Fd1 : Fld Z h0 a "com/example/flicker/flicker/game/Rational" "denominator" "J" (.long d1)) (Fn2 : Fld Z h0 b "com/example/flicker/flicker/game/Rational" "numerator" "J" (.long n2)) (Fd2 : Fld Z h0 b "com/example/flicker/flicker/game/Rational" "denominator" "J" (.long d2)) (hp : n1.toInt * d2.toInt < n2.toInt * d1.toInt) :
    Does l Z n0 ⟨"com/example/flicker/flicker/game/Relation", "holds", "(Lcom/example/flicker/flicker/game/Rational;Lcom/example/flicker/flicker/game/Rational;)Z"⟩ prog_18_method_6_code 5 (some .boolean) [] { frames := 4, cells := 0, slots := 0, locals := 66 } #[(.ref sB), (.ref a), (.ref b)] h0 (fun v h => v = some (.int 0) ∧ h0 = h) := by
  refine Does.start (plainFor_of_name pn_5) ?_
  intro p e s m below meth c T X
  replace X : Sd Z n0 0 prog_18_method_6_code 5 "com/example/flicker/flicker/game/Relation" "holds" (some .boolean) h0 p l e { frames := 4, cells := 0, slots := 0, locals := 66 } s m #[(.ref sB), (.ref a), (.ref b)] below meth c T [] 0 0 := X
  refine Wp.cast (g' := mkF m 0 #[.val (.ref sB), .val (.ref a), .val (.ref b), .unset, .unset] []) (by first | (simp [entryFrame, mkF, argsToLocals, Value.category, maxLocals]; done) | rfl) ?_
  refine w_aloadN X dprog_18_6_0 rfl (rfl) ?_
  refine w_aloadN X dprog_18_6_1 rfl (rfl) ?_
  refine w_callV X dprog_18_6_2 (wd_45 hw) (wd_46 hw) (notFace_of_selects (args := #[]) (mvT X.hZ (wd_48 hw))) (wd_48 hw) (wd_47 hw) (wd_10 hw) (wd_49 hw) (by decide) Ea (argsL := [(.ref b)]) (S := []) (m_ct hw Fn1 Fd1 Fn2 Fd2) pd_5 rfl rfl rfl (by decide) (Nat.le_of_ble_eq_true rfl) (by decide) (by decide) (fun T h1 v1 L1 X q1 => ?_)
  obtain ⟨⟨r, rfl, r1, r2⟩, rfl⟩ := q1
  show Wp p e below _ (T.setTop (mkF m 5 #[.val (.ref sB), .val (.ref a), .val (.ref b), .unset, .unset] [(.int r)]))
  refine w_istoreN X #[.val (.ref sB), .val (.ref a), .val (.ref b), .val (.int r), .unset] dprog_18_6_5 rfl ?_
  refine w_aloadN X dprog_18_6_6 rfl (rfl) ?_
  refine w_callU X dprog_18_6_7 (wd_66 hw) (wd_67 hw) (wd_68 hw) (by decide) (wd_70 hw) (wd_69 hw) (wd_71 hw) (wd_72 hw) (E_sB.ext X.old.2) (argsL := []) (S := []) (m_ord hw (O_sB.ext X.old.2)) pd_6 rfl rfl rfl (by decide) (Nat.le_of_ble_eq_true rfl) (by decide) (by decide) (fun T h2 v2 L2 X q2 => ?_)
  obtain ⟨rfl, rfl⟩ := q2
  show Wp p e below _ (T.setTop (mkF m 10 #[.val (.ref sB), .val (.ref a), .val (.ref b), .val (.int r), .unset] [(.int (1 : Int32))]))
  refine w_tsw X dprog_18_6_10 (by decide) (o := 52) (by decide) (by decide) (t := 62) (by decide) ?_
  refine w_iloadN X dprog_18_6_62 rfl ?_
  refine w_ifle X dprog_18_6_63 (fun _ => ?_) (fun hc => absurd hc (Int32.lt_asymm (r2 hp)))
  refine w_iconst X (0 : Int32) dprog_18_6_70 rfl ?_
  refine w_goto X dprog_18_6_71 ?_
  refine w_istore X #[.val (.ref sB), .val (.ref a), .val (.ref b), .val (.int r), .val (.int (0 : Int32))] dprog_18_6_95 rfl ?_
  refine w_iload X dprog_18_6_97 rfl ?_
  exact w_ret_boolean X (0 : Int32) (by decide) dprog_18_6_99 ⟨rfl, rfl⟩ (by decide) (by decide)
set_option maxRecDepth 65536 in
set_option maxHeartbeats 40000000 in
theorem m_bbsC {l : Launch} {Z : State} {a0 : Array Value} {n0 : Nat} (hw : ∀ d ∈ tables_1, d.before a0 Z = true) {h0 : Heap} {sA sB sC sE : Addr} (S_sA : Sta Z Z.heap "com/example/flicker/flicker/game/Relation" "AT_LEAST" "Lcom/example/flicker/flicker/game/Relation;" (.ref sA)) (E_sA : Exa Z Z.heap sA "com/example/flicker/flicker/game/Relation") (O_sA : Fld Z Z.heap sA "java/lang/Enum" "ordinal" "I" (.int (0 : Int32))) (S_sB : Sta Z Z.heap "com/example/flicker/flicker/game/Relation" "ABOVE" "Lcom/example/flicker/flicker/game/Relation;" (.ref sB)) (E_sB : Exa Z Z.heap sB "com/example/flicker/flicker/game/Relation") (O_sB : Fld Z Z.heap sB "java/lang/Enum" "ordinal" "I" (.int (1 : Int32))) (S_sC : Sta Z Z.heap "com/example/flicker/flicker/game/Relation" "AT_MOST" "Lcom/example/flicker/flicker/game/Relation;" (.ref sC)) (E_sC : Exa Z Z.heap sC "com/example/flicker/flicker/game/Relation") (O_sC : Fld Z Z.heap sC "java/lang/Enum" "ordinal" "I" (.int (2 : Int32))) (S_sE : Sta Z Z.heap "com/example/flicker/flicker/game/Relation" "BELOW" "Lcom/example/flicker/flicker/game/Relation;" (.ref sE)) (E_sE : Exa Z Z.heap sE "com/example/flicker/flicker/game/Relation") (O_sE : Fld Z Z.heap sE "java/lang/Enum" "ordinal" "I" (.int (3 : Int32))) :
    Does l Z n0 ⟨"com/example/flicker/flicker/game/Relation", "boundsBelow", "()Z"⟩ prog_18_method_5_code 1 (some .boolean) [] { frames := 0, cells := 0, slots := 0, locals := 0 } #[(.ref sC)] h0 (fun v h => v = some (.int 0) ∧ h0 = h) := by
  refine Does.start (plainFor_of_name pn_5) ?_
  intro p e s m below meth c T X
  replace X : Sd Z n0 0 prog_18_method_5_code 1 "com/example/flicker/flicker/game/Relation" "boundsBelow" (some .boolean) h0 p l e { frames := 0, cells := 0, slots := 0, locals := 0 } s m #[(.ref sC)] below meth c T [] 0 0 := X
  refine Wp.cast (g' := mkF m 0 #[.val (.ref sC)] []) (by first | (simp [entryFrame, mkF, argsToLocals, Value.category, maxLocals]; done) | rfl) ?_
  refine w_aloadN X dprog_18_5_0 rfl (rfl) ?_
  refine w_getS X dprog_18_5_1 (host := "") (Or.inl (wd_39 hw)) Via.refl (S_sA.ext X.old.2) (fun T X => ?_)
  refine w_acmpeq X (rfl) (rfl) dprog_18_5_4 (fun hc => absurd hc (fun q => own_ne O_sC O_sA (by decide) (Value.ref.inj q))) (fun _ => ?_)
  refine w_aloadN X dprog_18_5_7 rfl (rfl) ?_
  refine w_getS X dprog_18_5_8 (host := "") (Or.inl (wd_77 hw)) Via.refl (S_sB.ext X.old.2) (fun T X => ?_)
  refine w_acmpne X (rfl) (rfl) dprog_18_5_11 (fun _ => ?_) (fun hc => absurd hc (fun q => own_ne O_sC O_sB (by decide) (Value.ref.inj q)))
  refine w_iconst X (0 : Int32) dprog_18_5_18 rfl ?_
  exact w_ret_boolean X (0 : Int32) (by decide) dprog_18_5_19 ⟨rfl, rfl⟩ (by decide) (by decide)
set_option maxRecDepth 65536 in
set_option maxHeartbeats 40000000 in
theorem m_hosC_gt {l : Launch} {Z : State} {a0 : Array Value} {n0 : Nat} (hw : ∀ d ∈ tables_1, d.before a0 Z = true) {h0 : Heap} {sA sB sC sE : Addr} {a b : Addr} {n1 d1 n2 d2 : Int64} (S_sA : Sta Z Z.heap "com/example/flicker/flicker/game/Relation" "AT_LEAST" "Lcom/example/flicker/flicker/game/Relation;" (.ref sA)) (E_sA : Exa Z Z.heap sA "com/example/flicker/flicker/game/Relation") (O_sA : Fld Z Z.heap sA "java/lang/Enum" "ordinal" "I" (.int (0 : Int32))) (S_sB : Sta Z Z.heap "com/example/flicker/flicker/game/Relation" "ABOVE" "Lcom/example/flicker/flicker/game/Relation;" (.ref sB)) (E_sB : Exa Z Z.heap sB "com/example/flicker/flicker/game/Relation") (O_sB : Fld Z Z.heap sB "java/lang/Enum" "ordinal" "I" (.int (1 : Int32))) (S_sC : Sta Z Z.heap "com/example/flicker/flicker/game/Relation" "AT_MOST" "Lcom/example/flicker/flicker/game/Relation;" (.ref sC)) (E_sC : Exa Z Z.heap sC "com/example/flicker/flicker/game/Relation") (O_sC : Fld Z Z.heap sC "java/lang/Enum" "ordinal" "I" (.int (2 : Int32))) (S_sE : Sta Z Z.heap "com/example/flicker/flicker/game/Relation" "BELOW" "Lcom/example/flicker/flicker/game/Relation;" (.ref sE)) (E_sE : Exa Z Z.heap sE "com/example/flicker/flicker/game/Relation") (O_sE : Fld Z Z.heap sE "java/lang/Enum" "ordinal" "I" (.int (3 : Int32))) (Ea : Exa Z h0 a "com/example/flicker/flicker/game/Rational") (Fn1 : Fld Z h0 a "com/example/flicker/flicker/game/Rational" "numerator" "J" (.long n1)) (Fd1 : Fld Z h0 a "com/example/flicker/flicker/game/Rational" "denominator" "J" (.long d1)) (Fn2 : Fld Z h0 b "com/example/flicker/flicker/game/Rational" "numerator" "J" (.long n2)) (Fd2 : Fld Z h0 b "com/example/flicker/flicker/game/Rational" "denominator" "J" (.long d2)) (hp : n2.toInt * d1.toInt < n1.toInt * d2.toInt) :
    Does l Z n0 ⟨"com/example/flicker/flicker/game/Relation", "holds", "(Lcom/example/flicker/flicker/game/Rational;Lcom/example/flicker/flicker/game/Rational;)Z"⟩ prog_18_method_6_code 5 (some .boolean) [] { frames := 4, cells := 0, slots := 0, locals := 66 } #[(.ref sC), (.ref a), (.ref b)] h0 (fun v h => v = some (.int 0) ∧ h0 = h) := by
  refine Does.start (plainFor_of_name pn_5) ?_
  intro p e s m below meth c T X
  replace X : Sd Z n0 0 prog_18_method_6_code 5 "com/example/flicker/flicker/game/Relation" "holds" (some .boolean) h0 p l e { frames := 4, cells := 0, slots := 0, locals := 66 } s m #[(.ref sC), (.ref a), (.ref b)] below meth c T [] 0 0 := X
  refine Wp.cast (g' := mkF m 0 #[.val (.ref sC), .val (.ref a), .val (.ref b), .unset, .unset] []) (by first | (simp [entryFrame, mkF, argsToLocals, Value.category, maxLocals]; done) | rfl) ?_
  refine w_aloadN X dprog_18_6_0 rfl (rfl) ?_
  refine w_aloadN X dprog_18_6_1 rfl (rfl) ?_
  refine w_callV X dprog_18_6_2 (wd_45 hw) (wd_46 hw) (notFace_of_selects (args := #[]) (mvT X.hZ (wd_48 hw))) (wd_48 hw) (wd_47 hw) (wd_10 hw) (wd_49 hw) (by decide) Ea (argsL := [(.ref b)]) (S := []) (m_ct hw Fn1 Fd1 Fn2 Fd2) pd_5 rfl rfl rfl (by decide) (Nat.le_of_ble_eq_true rfl) (by decide) (by decide) (fun T h1 v1 L1 X q1 => ?_)
  obtain ⟨⟨r, rfl, r1, r2⟩, rfl⟩ := q1
  show Wp p e below _ (T.setTop (mkF m 5 #[.val (.ref sC), .val (.ref a), .val (.ref b), .unset, .unset] [(.int r)]))
  refine w_istoreN X #[.val (.ref sC), .val (.ref a), .val (.ref b), .val (.int r), .unset] dprog_18_6_5 rfl ?_
  refine w_aloadN X dprog_18_6_6 rfl (rfl) ?_
  refine w_callU X dprog_18_6_7 (wd_66 hw) (wd_67 hw) (wd_68 hw) (by decide) (wd_70 hw) (wd_69 hw) (wd_71 hw) (wd_72 hw) (E_sC.ext X.old.2) (argsL := []) (S := []) (m_ord hw (O_sC.ext X.old.2)) pd_6 rfl rfl rfl (by decide) (Nat.le_of_ble_eq_true rfl) (by decide) (by decide) (fun T h2 v2 L2 X q2 => ?_)
  obtain ⟨rfl, rfl⟩ := q2
  show Wp p e below _ (T.setTop (mkF m 10 #[.val (.ref sC), .val (.ref a), .val (.ref b), .val (.int r), .unset] [(.int (2 : Int32))]))
  refine w_tsw X dprog_18_6_10 (by decide) (o := 64) (by decide) (by decide) (t := 74) (by decide) ?_
  refine w_iloadN X dprog_18_6_74 rfl ?_
  refine w_ifgt X dprog_18_6_75 (fun _ => ?_) (fun hc => absurd (r1 hp) hc)
  refine w_iconst X (0 : Int32) dprog_18_6_82 rfl ?_
  refine w_goto X dprog_18_6_83 ?_
  refine w_istore X #[.val (.ref sC), .val (.ref a), .val (.ref b), .val (.int r), .val (.int (0 : Int32))] dprog_18_6_95 rfl ?_
  refine w_iload X dprog_18_6_97 rfl ?_
  exact w_ret_boolean X (0 : Int32) (by decide) dprog_18_6_99 ⟨rfl, rfl⟩ (by decide) (by decide)
set_option maxRecDepth 65536 in
set_option maxHeartbeats 40000000 in
theorem m_hosC_lt {l : Launch} {Z : State} {a0 : Array Value} {n0 : Nat} (hw : ∀ d ∈ tables_1, d.before a0 Z = true) {h0 : Heap} {sA sB sC sE : Addr} {a b : Addr} {n1 d1 n2 d2 : Int64} (S_sA : Sta Z Z.heap "com/example/flicker/flicker/game/Relation" "AT_LEAST" "Lcom/example/flicker/flicker/game/Relation;" (.ref sA)) (E_sA : Exa Z Z.heap sA "com/example/flicker/flicker/game/Relation") (O_sA : Fld Z Z.heap sA "java/lang/Enum" "ordinal" "I" (.int (0 : Int32))) (S_sB : Sta Z Z.heap "com/example/flicker/flicker/game/Relation" "ABOVE" "Lcom/example/flicker/flicker/game/Relation;" (.ref sB)) (E_sB : Exa Z Z.heap sB "com/example/flicker/flicker/game/Relation") (O_sB : Fld Z Z.heap sB "java/lang/Enum" "ordinal" "I" (.int (1 : Int32))) (S_sC : Sta Z Z.heap "com/example/flicker/flicker/game/Relation" "AT_MOST" "Lcom/example/flicker/flicker/game/Relation;" (.ref sC)) (E_sC : Exa Z Z.heap sC "com/example/flicker/flicker/game/Relation") (O_sC : Fld Z Z.heap sC "java/lang/Enum" "ordinal" "I" (.int (2 : Int32))) (S_sE : Sta Z Z.heap "com/example/flicker/flicker/game/Relation" "BELOW" "Lcom/example/flicker/flicker/game/Relation;" (.ref sE)) (E_sE : Exa Z Z.heap sE "com/example/flicker/flicker/game/Relation") (O_sE : Fld Z Z.heap sE "java/lang/Enum" "ordinal" "I" (.int (3 : Int32))) (Ea : Exa Z h0 a "com/example/flicker/flicker/game/Rational") (Fn1 : Fld Z h0 a "com/example/flicker/flicker/game/Rational" "numerator" "J" (.long n1)) (Fd1 : Fld Z h0 a "com/example/flicker/flicker/game/Rational" "denominator" "J" (.long d1)) (Fn2 : Fld Z h0 b "com/example/flicker/flicker/game/Rational" "numerator" "J" (.long n2)) (Fd2 : Fld Z h0 b "com/example/flicker/flicker/game/Rational" "denominator" "J" (.long d2)) (hp : n1.toInt * d2.toInt < n2.toInt * d1.toInt) :
    Does l Z n0 ⟨"com/example/flicker/flicker/game/Relation", "holds", "(Lcom/example/flicker/flicker/game/Rational;Lcom/example/flicker/flicker/game/Rational;)Z"⟩ prog_18_method_6_code 5 (some .boolean) [] { frames := 4, cells := 0, slots := 0, locals := 66 } #[(.ref sC), (.ref a), (.ref b)] h0 (fun v h => v = some (.int 1) ∧ h0 = h) := by
  refine Does.start (plainFor_of_name pn_5) ?_
  intro p e s m below meth c T X
  replace X : Sd Z n0 0 prog_18_method_6_code 5 "com/example/flicker/flicker/game/Relation" "holds" (some .boolean) h0 p l e { frames := 4, cells := 0, slots := 0, locals := 66 } s m #[(.ref sC), (.ref a), (.ref b)] below meth c T [] 0 0 := X
  refine Wp.cast (g' := mkF m 0 #[.val (.ref sC), .val (.ref a), .val (.ref b), .unset, .unset] []) (by first | (simp [entryFrame, mkF, argsToLocals, Value.category, maxLocals]; done) | rfl) ?_
  refine w_aloadN X dprog_18_6_0 rfl (rfl) ?_
  refine w_aloadN X dprog_18_6_1 rfl (rfl) ?_
  refine w_callV X dprog_18_6_2 (wd_45 hw) (wd_46 hw) (notFace_of_selects (args := #[]) (mvT X.hZ (wd_48 hw))) (wd_48 hw) (wd_47 hw) (wd_10 hw) (wd_49 hw) (by decide) Ea (argsL := [(.ref b)]) (S := []) (m_ct hw Fn1 Fd1 Fn2 Fd2) pd_5 rfl rfl rfl (by decide) (Nat.le_of_ble_eq_true rfl) (by decide) (by decide) (fun T h1 v1 L1 X q1 => ?_)
  obtain ⟨⟨r, rfl, r1, r2⟩, rfl⟩ := q1
  show Wp p e below _ (T.setTop (mkF m 5 #[.val (.ref sC), .val (.ref a), .val (.ref b), .unset, .unset] [(.int r)]))
  refine w_istoreN X #[.val (.ref sC), .val (.ref a), .val (.ref b), .val (.int r), .unset] dprog_18_6_5 rfl ?_
  refine w_aloadN X dprog_18_6_6 rfl (rfl) ?_
  refine w_callU X dprog_18_6_7 (wd_66 hw) (wd_67 hw) (wd_68 hw) (by decide) (wd_70 hw) (wd_69 hw) (wd_71 hw) (wd_72 hw) (E_sC.ext X.old.2) (argsL := []) (S := []) (m_ord hw (O_sC.ext X.old.2)) pd_6 rfl rfl rfl (by decide) (Nat.le_of_ble_eq_true rfl) (by decide) (by decide) (fun T h2 v2 L2 X q2 => ?_)
  obtain ⟨rfl, rfl⟩ := q2
  show Wp p e below _ (T.setTop (mkF m 10 #[.val (.ref sC), .val (.ref a), .val (.ref b), .val (.int r), .unset] [(.int (2 : Int32))]))
  refine w_tsw X dprog_18_6_10 (by decide) (o := 64) (by decide) (by decide) (t := 74) (by decide) ?_
  refine w_iloadN X dprog_18_6_74 rfl ?_
  refine w_ifgt X dprog_18_6_75 (fun hc => absurd hc (Int32.lt_asymm (r2 hp))) (fun _ => ?_)
  refine w_iconst X (1 : Int32) dprog_18_6_78 rfl ?_
  refine w_goto X dprog_18_6_79 ?_
  refine w_istore X #[.val (.ref sC), .val (.ref a), .val (.ref b), .val (.int r), .val (.int (1 : Int32))] dprog_18_6_95 rfl ?_
  refine w_iload X dprog_18_6_97 rfl ?_
  exact w_ret_boolean X (1 : Int32) (by decide) dprog_18_6_99 ⟨rfl, rfl⟩ (by decide) (by decide)
set_option maxRecDepth 65536 in
set_option maxHeartbeats 40000000 in
theorem m_bbsE {l : Launch} {Z : State} {a0 : Array Value} {n0 : Nat} (hw : ∀ d ∈ tables_1, d.before a0 Z = true) {h0 : Heap} {sA sB sC sE : Addr} (S_sA : Sta Z Z.heap "com/example/flicker/flicker/game/Relation" "AT_LEAST" "Lcom/example/flicker/flicker/game/Relation;" (.ref sA)) (E_sA : Exa Z Z.heap sA "com/example/flicker/flicker/game/Relation") (O_sA : Fld Z Z.heap sA "java/lang/Enum" "ordinal" "I" (.int (0 : Int32))) (S_sB : Sta Z Z.heap "com/example/flicker/flicker/game/Relation" "ABOVE" "Lcom/example/flicker/flicker/game/Relation;" (.ref sB)) (E_sB : Exa Z Z.heap sB "com/example/flicker/flicker/game/Relation") (O_sB : Fld Z Z.heap sB "java/lang/Enum" "ordinal" "I" (.int (1 : Int32))) (S_sC : Sta Z Z.heap "com/example/flicker/flicker/game/Relation" "AT_MOST" "Lcom/example/flicker/flicker/game/Relation;" (.ref sC)) (E_sC : Exa Z Z.heap sC "com/example/flicker/flicker/game/Relation") (O_sC : Fld Z Z.heap sC "java/lang/Enum" "ordinal" "I" (.int (2 : Int32))) (S_sE : Sta Z Z.heap "com/example/flicker/flicker/game/Relation" "BELOW" "Lcom/example/flicker/flicker/game/Relation;" (.ref sE)) (E_sE : Exa Z Z.heap sE "com/example/flicker/flicker/game/Relation") (O_sE : Fld Z Z.heap sE "java/lang/Enum" "ordinal" "I" (.int (3 : Int32))) :
    Does l Z n0 ⟨"com/example/flicker/flicker/game/Relation", "boundsBelow", "()Z"⟩ prog_18_method_5_code 1 (some .boolean) [] { frames := 0, cells := 0, slots := 0, locals := 0 } #[(.ref sE)] h0 (fun v h => v = some (.int 0) ∧ h0 = h) := by
  refine Does.start (plainFor_of_name pn_5) ?_
  intro p e s m below meth c T X
  replace X : Sd Z n0 0 prog_18_method_5_code 1 "com/example/flicker/flicker/game/Relation" "boundsBelow" (some .boolean) h0 p l e { frames := 0, cells := 0, slots := 0, locals := 0 } s m #[(.ref sE)] below meth c T [] 0 0 := X
  refine Wp.cast (g' := mkF m 0 #[.val (.ref sE)] []) (by first | (simp [entryFrame, mkF, argsToLocals, Value.category, maxLocals]; done) | rfl) ?_
  refine w_aloadN X dprog_18_5_0 rfl (rfl) ?_
  refine w_getS X dprog_18_5_1 (host := "") (Or.inl (wd_39 hw)) Via.refl (S_sA.ext X.old.2) (fun T X => ?_)
  refine w_acmpeq X (rfl) (rfl) dprog_18_5_4 (fun hc => absurd hc (fun q => own_ne O_sE O_sA (by decide) (Value.ref.inj q))) (fun _ => ?_)
  refine w_aloadN X dprog_18_5_7 rfl (rfl) ?_
  refine w_getS X dprog_18_5_8 (host := "") (Or.inl (wd_77 hw)) Via.refl (S_sB.ext X.old.2) (fun T X => ?_)
  refine w_acmpne X (rfl) (rfl) dprog_18_5_11 (fun _ => ?_) (fun hc => absurd hc (fun q => own_ne O_sE O_sB (by decide) (Value.ref.inj q)))
  refine w_iconst X (0 : Int32) dprog_18_5_18 rfl ?_
  exact w_ret_boolean X (0 : Int32) (by decide) dprog_18_5_19 ⟨rfl, rfl⟩ (by decide) (by decide)
set_option maxRecDepth 65536 in
set_option maxHeartbeats 40000000 in
theorem m_hosE_gt {l : Launch} {Z : State} {a0 : Array Value} {n0 : Nat} (hw : ∀ d ∈ tables_1, d.before a0 Z = true) {h0 : Heap} {sA sB sC sE : Addr} {a b : Addr} {n1 d1 n2 d2 : Int64} (S_sA : Sta Z Z.heap "com/example/flicker/flicker/game/Relation" "AT_LEAST" "Lcom/example/flicker/flicker/game/Relation;" (.ref sA)) (E_sA : Exa Z Z.heap sA "com/example/flicker/flicker/game/Relation") (O_sA : Fld Z Z.heap sA "java/lang/Enum" "ordinal" "I" (.int (0 : Int32))) (S_sB : Sta Z Z.heap "com/example/flicker/flicker/game/Relation" "ABOVE" "Lcom/example/flicker/flicker/game/Relation;" (.ref sB)) (E_sB : Exa Z Z.heap sB "com/example/flicker/flicker/game/Relation") (O_sB : Fld Z Z.heap sB "java/lang/Enum" "ordinal" "I" (.int (1 : Int32))) (S_sC : Sta Z Z.heap "com/example/flicker/flicker/game/Relation" "AT_MOST" "Lcom/example/flicker/flicker/game/Relation;" (.ref sC)) (E_sC : Exa Z Z.heap sC "com/example/flicker/flicker/game/Relation") (O_sC : Fld Z Z.heap sC "java/lang/Enum" "ordinal" "I" (.int (2 : Int32))) (S_sE : Sta Z Z.heap "com/example/flicker/flicker/game/Relation" "BELOW" "Lcom/example/flicker/flicker/game/Relation;" (.ref sE)) (E_sE : Exa Z Z.heap sE "com/example/flicker/flicker/game/Relation") (O_sE : Fld Z Z.heap sE "java/lang/Enum" "ordinal" "I" (.int (3 : Int32))) (Ea : Exa Z h0 a "com/example/flicker/flicker/game/Rational") (Fn1 : Fld Z h0 a "com/example/flicker/flicker/game/Rational" "numerator" "J" (.long n1)) (Fd1 : Fld Z h0 a "com/example/flicker/flicker/game/Rational" "denominator" "J" (.long d1)) (Fn2 : Fld Z h0 b "com/example/flicker/flicker/game/Rational" "numerator" "J" (.long n2)) (Fd2 : Fld Z h0 b "com/example/flicker/flicker/game/Rational" "denominator" "J" (.long d2)) (hp : n2.toInt * d1.toInt < n1.toInt * d2.toInt) :
    Does l Z n0 ⟨"com/example/flicker/flicker/game/Relation", "holds", "(Lcom/example/flicker/flicker/game/Rational;Lcom/example/flicker/flicker/game/Rational;)Z"⟩ prog_18_method_6_code 5 (some .boolean) [] { frames := 4, cells := 0, slots := 0, locals := 66 } #[(.ref sE), (.ref a), (.ref b)] h0 (fun v h => v = some (.int 0) ∧ h0 = h) := by
  refine Does.start (plainFor_of_name pn_5) ?_
  intro p e s m below meth c T X
  replace X : Sd Z n0 0 prog_18_method_6_code 5 "com/example/flicker/flicker/game/Relation" "holds" (some .boolean) h0 p l e { frames := 4, cells := 0, slots := 0, locals := 66 } s m #[(.ref sE), (.ref a), (.ref b)] below meth c T [] 0 0 := X
  refine Wp.cast (g' := mkF m 0 #[.val (.ref sE), .val (.ref a), .val (.ref b), .unset, .unset] []) (by first | (simp [entryFrame, mkF, argsToLocals, Value.category, maxLocals]; done) | rfl) ?_
  refine w_aloadN X dprog_18_6_0 rfl (rfl) ?_
  refine w_aloadN X dprog_18_6_1 rfl (rfl) ?_
  refine w_callV X dprog_18_6_2 (wd_45 hw) (wd_46 hw) (notFace_of_selects (args := #[]) (mvT X.hZ (wd_48 hw))) (wd_48 hw) (wd_47 hw) (wd_10 hw) (wd_49 hw) (by decide) Ea (argsL := [(.ref b)]) (S := []) (m_ct hw Fn1 Fd1 Fn2 Fd2) pd_5 rfl rfl rfl (by decide) (Nat.le_of_ble_eq_true rfl) (by decide) (by decide) (fun T h1 v1 L1 X q1 => ?_)
  obtain ⟨⟨r, rfl, r1, r2⟩, rfl⟩ := q1
  show Wp p e below _ (T.setTop (mkF m 5 #[.val (.ref sE), .val (.ref a), .val (.ref b), .unset, .unset] [(.int r)]))
  refine w_istoreN X #[.val (.ref sE), .val (.ref a), .val (.ref b), .val (.int r), .unset] dprog_18_6_5 rfl ?_
  refine w_aloadN X dprog_18_6_6 rfl (rfl) ?_
  refine w_callU X dprog_18_6_7 (wd_66 hw) (wd_67 hw) (wd_68 hw) (by decide) (wd_70 hw) (wd_69 hw) (wd_71 hw) (wd_72 hw) (E_sE.ext X.old.2) (argsL := []) (S := []) (m_ord hw (O_sE.ext X.old.2)) pd_6 rfl rfl rfl (by decide) (Nat.le_of_ble_eq_true rfl) (by decide) (by decide) (fun T h2 v2 L2 X q2 => ?_)
  obtain ⟨rfl, rfl⟩ := q2
  show Wp p e below _ (T.setTop (mkF m 10 #[.val (.ref sE), .val (.ref a), .val (.ref b), .val (.int r), .unset] [(.int (3 : Int32))]))
  refine w_tsw X dprog_18_6_10 (by decide) (o := 76) (by decide) (by decide) (t := 86) (by decide) ?_
  refine w_iloadN X dprog_18_6_86 rfl ?_
  refine w_ifge X dprog_18_6_87 (fun _ => ?_) (fun hc => absurd hc (Int32.lt_asymm (r1 hp)))
  refine w_iconst X (0 : Int32) dprog_18_6_94 rfl ?_
  refine w_istore X #[.val (.ref sE), .val (.ref a), .val (.ref b), .val (.int r), .val (.int (0 : Int32))] dprog_18_6_95 rfl ?_
  refine w_iload X dprog_18_6_97 rfl ?_
  exact w_ret_boolean X (0 : Int32) (by decide) dprog_18_6_99 ⟨rfl, rfl⟩ (by decide) (by decide)
set_option maxRecDepth 65536 in
set_option maxHeartbeats 40000000 in
theorem m_hosE_lt {l : Launch} {Z : State} {a0 : Array Value} {n0 : Nat} (hw : ∀ d ∈ tables_1, d.before a0 Z = true) {h0 : Heap} {sA sB sC sE : Addr} {a b : Addr} {n1 d1 n2 d2 : Int64} (S_sA : Sta Z Z.heap "com/example/flicker/flicker/game/Relation" "AT_LEAST" "Lcom/example/flicker/flicker/game/Relation;" (.ref sA)) (E_sA : Exa Z Z.heap sA "com/example/flicker/flicker/game/Relation") (O_sA : Fld Z Z.heap sA "java/lang/Enum" "ordinal" "I" (.int (0 : Int32))) (S_sB : Sta Z Z.heap "com/example/flicker/flicker/game/Relation" "ABOVE" "Lcom/example/flicker/flicker/game/Relation;" (.ref sB)) (E_sB : Exa Z Z.heap sB "com/example/flicker/flicker/game/Relation") (O_sB : Fld Z Z.heap sB "java/lang/Enum" "ordinal" "I" (.int (1 : Int32))) (S_sC : Sta Z Z.heap "com/example/flicker/flicker/game/Relation" "AT_MOST" "Lcom/example/flicker/flicker/game/Relation;" (.ref sC)) (E_sC : Exa Z Z.heap sC "com/example/flicker/flicker/game/Relation") (O_sC : Fld Z Z.heap sC "java/lang/Enum" "ordinal" "I" (.int (2 : Int32))) (S_sE : Sta Z Z.heap "com/example/flicker/flicker/game/Relation" "BELOW" "Lcom/example/flicker/flicker/game/Relation;" (.ref sE)) (E_sE : Exa Z Z.heap sE "com/example/flicker/flicker/game/Relation") (O_sE : Fld Z Z.heap sE "java/lang/Enum" "ordinal" "I" (.int (3 : Int32))) (Ea : Exa Z h0 a "com/example/flicker/flicker/game/Rational") (Fn1 : Fld Z h0 a "com/example/flicker/flicker/game/Rational" "numerator" "J" (.long n1)) (Fd1 : Fld Z h0 a "com/example/flicker/flicker/game/Rational" "denominator" "J" (.long d1)) (Fn2 : Fld Z h0 b "com/example/flicker/flicker/game/Rational" "numerator" "J" (.long n2)) (Fd2 : Fld Z h0 b "com/example/flicker/flicker/game/Rational" "denominator" "J" (.long d2)) (hp : n1.toInt * d2.toInt < n2.toInt * d1.toInt) :
    Does l Z n0 ⟨"com/example/flicker/flicker/game/Relation", "holds", "(Lcom/example/flicker/flicker/game/Rational;Lcom/example/flicker/flicker/game/Rational;)Z"⟩ prog_18_method_6_code 5 (some .boolean) [] { frames := 4, cells := 0, slots := 0, locals := 66 } #[(.ref sE), (.ref a), (.ref b)] h0 (fun v h => v = some (.int 1) ∧ h0 = h) := by
  refine Does.start (plainFor_of_name pn_5) ?_
  intro p e s m below meth c T X
  replace X : Sd Z n0 0 prog_18_method_6_code 5 "com/example/flicker/flicker/game/Relation" "holds" (some .boolean) h0 p l e { frames := 4, cells := 0, slots := 0, locals := 66 } s m #[(.ref sE), (.ref a), (.ref b)] below meth c T [] 0 0 := X
  refine Wp.cast (g' := mkF m 0 #[.val (.ref sE), .val (.ref a), .val (.ref b), .unset, .unset] []) (by first | (simp [entryFrame, mkF, argsToLocals, Value.category, maxLocals]; done) | rfl) ?_
  refine w_aloadN X dprog_18_6_0 rfl (rfl) ?_
  refine w_aloadN X dprog_18_6_1 rfl (rfl) ?_
  refine w_callV X dprog_18_6_2 (wd_45 hw) (wd_46 hw) (notFace_of_selects (args := #[]) (mvT X.hZ (wd_48 hw))) (wd_48 hw) (wd_47 hw) (wd_10 hw) (wd_49 hw) (by decide) Ea (argsL := [(.ref b)]) (S := []) (m_ct hw Fn1 Fd1 Fn2 Fd2) pd_5 rfl rfl rfl (by decide) (Nat.le_of_ble_eq_true rfl) (by decide) (by decide) (fun T h1 v1 L1 X q1 => ?_)
  obtain ⟨⟨r, rfl, r1, r2⟩, rfl⟩ := q1
  show Wp p e below _ (T.setTop (mkF m 5 #[.val (.ref sE), .val (.ref a), .val (.ref b), .unset, .unset] [(.int r)]))
  refine w_istoreN X #[.val (.ref sE), .val (.ref a), .val (.ref b), .val (.int r), .unset] dprog_18_6_5 rfl ?_
  refine w_aloadN X dprog_18_6_6 rfl (rfl) ?_
  refine w_callU X dprog_18_6_7 (wd_66 hw) (wd_67 hw) (wd_68 hw) (by decide) (wd_70 hw) (wd_69 hw) (wd_71 hw) (wd_72 hw) (E_sE.ext X.old.2) (argsL := []) (S := []) (m_ord hw (O_sE.ext X.old.2)) pd_6 rfl rfl rfl (by decide) (Nat.le_of_ble_eq_true rfl) (by decide) (by decide) (fun T h2 v2 L2 X q2 => ?_)
  obtain ⟨rfl, rfl⟩ := q2
  show Wp p e below _ (T.setTop (mkF m 10 #[.val (.ref sE), .val (.ref a), .val (.ref b), .val (.int r), .unset] [(.int (3 : Int32))]))
  refine w_tsw X dprog_18_6_10 (by decide) (o := 76) (by decide) (by decide) (t := 86) (by decide) ?_
  refine w_iloadN X dprog_18_6_86 rfl ?_
  refine w_ifge X dprog_18_6_87 (fun hc => absurd (r2 hp) hc) (fun _ => ?_)
  refine w_iconst X (1 : Int32) dprog_18_6_90 rfl ?_
  refine w_goto X dprog_18_6_91 ?_
  refine w_istore X #[.val (.ref sE), .val (.ref a), .val (.ref b), .val (.int r), .val (.int (1 : Int32))] dprog_18_6_95 rfl ?_
  refine w_iload X dprog_18_6_97 rfl ?_
  exact w_ret_boolean X (1 : Int32) (by decide) dprog_18_6_99 ⟨rfl, rfl⟩ (by decide) (by decide)
set_option maxRecDepth 65536 in
set_option maxHeartbeats 40000000 in
theorem m_law {l : Launch} {Z : State} {a0 : Array Value} {n0 : Nat} (hw : ∀ d ∈ tables_1, d.before a0 Z = true) {h0 : Heap} {sA sB sC sE : Addr} (k n d u w : Int32) (S_sA : Sta Z Z.heap "com/example/flicker/flicker/game/Relation" "AT_LEAST" "Lcom/example/flicker/flicker/game/Relation;" (.ref sA)) (E_sA : Exa Z Z.heap sA "com/example/flicker/flicker/game/Relation") (O_sA : Fld Z Z.heap sA "java/lang/Enum" "ordinal" "I" (.int (0 : Int32))) (S_sB : Sta Z Z.heap "com/example/flicker/flicker/game/Relation" "ABOVE" "Lcom/example/flicker/flicker/game/Relation;" (.ref sB)) (E_sB : Exa Z Z.heap sB "com/example/flicker/flicker/game/Relation") (O_sB : Fld Z Z.heap sB "java/lang/Enum" "ordinal" "I" (.int (1 : Int32))) (S_sC : Sta Z Z.heap "com/example/flicker/flicker/game/Relation" "AT_MOST" "Lcom/example/flicker/flicker/game/Relation;" (.ref sC)) (E_sC : Exa Z Z.heap sC "com/example/flicker/flicker/game/Relation") (O_sC : Fld Z Z.heap sC "java/lang/Enum" "ordinal" "I" (.int (2 : Int32))) (S_sE : Sta Z Z.heap "com/example/flicker/flicker/game/Relation" "BELOW" "Lcom/example/flicker/flicker/game/Relation;" (.ref sE)) (E_sE : Exa Z Z.heap sE "com/example/flicker/flicker/game/Relation") (O_sE : Fld Z Z.heap sE "java/lang/Enum" "ordinal" "I" (.int (3 : Int32))) (hden : 0 < ((d &&& (2147483647 : Int32)).toInt64 + (1 : Int64)).toInt) (hup : n.toInt64.toInt < ((n.toInt64 + (1 : Int64)) + (u &&& (65535 : Int32)).toInt64).toInt) (hdn : ((n.toInt64 - (1 : Int64)) - (w &&& (65535 : Int32)).toInt64).toInt < n.toInt64.toInt) :
    Does l Z n0 x code maxLocals ret tables_1 room_1 #[(.int k), (.int n), (.int d), (.int u), (.int w)] h0 (fun v _ => v = some (.int 1)) := by
  refine Does.start (plainFor_of_name pn_0) ?_
  intro p e s m below meth c T X
  replace X : Sd Z n0 0 code 16 "com/example/flicker/flicker/game/RelationBoundsBelowPinLaw" "law" (some .boolean) h0 p l e room_1 s m #[(.int k), (.int n), (.int d), (.int u), (.int w)] below meth c T [] 0 0 := X
  refine Wp.cast (g' := mkF m 0 #[.val (.int k), .val (.int n), .val (.int d), .val (.int u), .val (.int w), .unset, .unset, .unset, .unset, .unset, .unset, .unset, .unset, .unset, .unset, .unset] []) (by first | (simp [entryFrame, mkF, argsToLocals, Value.category, maxLocals]; done) | rfl) ?_
  rcases own_and3 k with hk | hk | hk | hk
  · refine w_iloadN X d_0 rfl ?_
    refine w_iconst X (3 : Int32) d_1 rfl ?_
    refine w_iand X d_2 ?_
    refine w_callS X d_3 (wd_0 hw) (wd_1 hw) (wd_2 hw) (wd_3 hw) (by decide) (argsL := [(.int (k &&& (3 : Int32)))]) (S := []) (m_pick hw (r := sA) (k &&& (3 : Int32)) (by rw [hk]; rfl) S_sA E_sA O_sA S_sB E_sB O_sB S_sC E_sC O_sC S_sE E_sE O_sE) pd_7 rfl rfl rfl (by decide) (Nat.le_of_ble_eq_true rfl) (by decide) (by decide) (fun T h1 v1 L1 X q1 => ?_)
    obtain ⟨rfl, rfl⟩ := q1
    show Wp p e below _ (T.setTop (mkF m 6 #[.val (.int k), .val (.int n), .val (.int d), .val (.int u), .val (.int w), .unset, .unset, .unset, .unset, .unset, .unset, .unset, .unset, .unset, .unset, .unset] [(.ref sA)]))
    refine w_astore X #[.val (.int k), .val (.int n), .val (.int d), .val (.int u), .val (.int w), .val (.ref sA), .unset, .unset, .unset, .unset, .unset, .unset, .unset, .unset, .unset, .unset] d_6 (rfl) rfl ?_
    refine w_iloadN X d_8 rfl ?_
    refine w_ldcI X d_9 (wd_7 hw) ?_
    refine w_iand X d_11 ?_
    refine w_i2l X d_12 ?_
    refine w_lconst X (1 : Int64) d_13 rfl ?_
    refine w_ladd X d_14 ?_
    refine w_lstore X #[.val (.int k), .val (.int n), .val (.int d), .val (.int u), .val (.int w), .val (.ref sA), .val (.long (((d &&& (2147483647 : Int32)).toInt64) + (1 : Int64))), .second, .unset, .unset, .unset, .unset, .unset, .unset, .unset, .unset] d_15 rfl ?_
    refine w_iloadN X d_17 rfl ?_
    refine w_i2l X d_18 ?_
    refine w_lstore X #[.val (.int k), .val (.int n), .val (.int d), .val (.int u), .val (.int w), .val (.ref sA), .val (.long (((d &&& (2147483647 : Int32)).toInt64) + (1 : Int64))), .second, .val (.long (n.toInt64)), .second, .unset, .unset, .unset, .unset, .unset, .unset] d_19 rfl ?_
    refine w_new X d_21 (wd_8 hw) (wd_9 hw) (wd_10 hw) (by decide) (by decide) (fun T h2 b2 g2 gn2 X E2 A2 D2 => ?_)
    refine w_dup X d_24 rfl ?_
    refine w_lload X d_25 rfl ?_
    refine w_lload X d_27 rfl ?_
    refine w_callI X d_29 rfl (wd_11 hw) (wd_12 hw) (wd_10 hw) (wd_13 hw) (by decide) (argsL := [(.long (n.toInt64)), (.long (((d &&& (2147483647 : Int32)).toInt64) + (1 : Int64)))]) (S := [(.ref b2)]) (m_init hw (n.toInt64) (((d &&& (2147483647 : Int32)).toInt64) + (1 : Int64)) hden gn2 A2 (show Fld Z h2 b2 "com/example/flicker/flicker/game/Rational" "numerator" "J" (.long (0 : Int64)) from D2 (Or.inr (wd_30 hw)) (ty := .long) (by decide)) (show Fld Z h2 b2 "com/example/flicker/flicker/game/Rational" "denominator" "J" (.long (0 : Int64)) from D2 (Or.inr (wd_32 hw)) (ty := .long) (by decide))) pd_8 rfl rfl rfl (by decide) (Nat.le_of_ble_eq_true rfl) (by decide) (by decide) (fun T h3 v3 L3 X q3 => ?_)
    obtain ⟨rfl, n3, d3, g3, gp3, en3, ed3, Fn3, Fd3, Ex3, K3⟩ := q3
    show Wp p e below _ (T.setTop (mkF m 32 #[.val (.int k), .val (.int n), .val (.int d), .val (.int u), .val (.int w), .val (.ref sA), .val (.long (((d &&& (2147483647 : Int32)).toInt64) + (1 : Int64))), .second, .val (.long (n.toInt64)), .second, .unset, .unset, .unset, .unset, .unset, .unset] [(.ref b2)]))
    refine w_astore X #[.val (.int k), .val (.int n), .val (.int d), .val (.int u), .val (.int w), .val (.ref sA), .val (.long (((d &&& (2147483647 : Int32)).toInt64) + (1 : Int64))), .second, .val (.long (n.toInt64)), .second, .val (.ref b2), .unset, .unset, .unset, .unset, .unset] d_32 (rfl) rfl ?_
    refine w_new X d_34 (wd_8 hw) (wd_9 hw) (wd_10 hw) (by decide) (by decide) (fun T h4 b4 g4 gn4 X E4 A4 D4 => ?_)
    refine w_dup X d_37 rfl ?_
    refine w_lload X d_38 rfl ?_
    refine w_lconst X (1 : Int64) d_40 rfl ?_
    refine w_ladd X d_41 ?_
    refine w_iloadN X d_42 rfl ?_
    refine w_ldcI X d_43 (wd_33 hw) ?_
    refine w_iand X d_45 ?_
    refine w_i2l X d_46 ?_
    refine w_ladd X d_47 ?_
    refine w_lload X d_48 rfl ?_
    refine w_callI X d_50 rfl (wd_11 hw) (wd_12 hw) (wd_10 hw) (wd_13 hw) (by decide) (argsL := [(.long (((n.toInt64) + (1 : Int64)) + ((u &&& (65535 : Int32)).toInt64))), (.long (((d &&& (2147483647 : Int32)).toInt64) + (1 : Int64)))]) (S := [(.ref b4)]) (m_init hw (((n.toInt64) + (1 : Int64)) + ((u &&& (65535 : Int32)).toInt64)) (((d &&& (2147483647 : Int32)).toInt64) + (1 : Int64)) hden gn4 A4 (show Fld Z h4 b4 "com/example/flicker/flicker/game/Rational" "numerator" "J" (.long (0 : Int64)) from D4 (Or.inr (wd_30 hw)) (ty := .long) (by decide)) (show Fld Z h4 b4 "com/example/flicker/flicker/game/Rational" "denominator" "J" (.long (0 : Int64)) from D4 (Or.inr (wd_32 hw)) (ty := .long) (by decide))) pd_8 rfl rfl rfl (by decide) (Nat.le_of_ble_eq_true rfl) (by decide) (by decide) (fun T h5 v5 L5 X q5 => ?_)
    obtain ⟨rfl, n5, d5, g5, gp5, en5, ed5, Fn5, Fd5, Ex5, K5⟩ := q5
    show Wp p e below _ (T.setTop (mkF m 53 #[.val (.int k), .val (.int n), .val (.int d), .val (.int u), .val (.int w), .val (.ref sA), .val (.long (((d &&& (2147483647 : Int32)).toInt64) + (1 : Int64))), .second, .val (.long (n.toInt64)), .second, .val (.ref b2), .unset, .unset, .unset, .unset, .unset] [(.ref b4)]))
    refine w_astore X #[.val (.int k), .val (.int n), .val (.int d), .val (.int u), .val (.int w), .val (.ref sA), .val (.long (((d &&& (2147483647 : Int32)).toInt64) + (1 : Int64))), .second, .val (.long (n.toInt64)), .second, .val (.ref b2), .val (.ref b4), .unset, .unset, .unset, .unset] d_53 (rfl) rfl ?_
    refine w_new X d_55 (wd_8 hw) (wd_9 hw) (wd_10 hw) (by decide) (by decide) (fun T h6 b6 g6 gn6 X E6 A6 D6 => ?_)
    refine w_dup X d_58 rfl ?_
    refine w_lload X d_59 rfl ?_
    refine w_lconst X (1 : Int64) d_61 rfl ?_
    refine w_lsub X d_62 ?_
    refine w_iload X d_63 rfl ?_
    refine w_ldcI X d_65 (wd_33 hw) ?_
    refine w_iand X d_67 ?_
    refine w_i2l X d_68 ?_
    refine w_lsub X d_69 ?_
    refine w_lload X d_70 rfl ?_
    refine w_callI X d_72 rfl (wd_11 hw) (wd_12 hw) (wd_10 hw) (wd_13 hw) (by decide) (argsL := [(.long (((n.toInt64) - (1 : Int64)) - ((w &&& (65535 : Int32)).toInt64))), (.long (((d &&& (2147483647 : Int32)).toInt64) + (1 : Int64)))]) (S := [(.ref b6)]) (m_init hw (((n.toInt64) - (1 : Int64)) - ((w &&& (65535 : Int32)).toInt64)) (((d &&& (2147483647 : Int32)).toInt64) + (1 : Int64)) hden gn6 A6 (show Fld Z h6 b6 "com/example/flicker/flicker/game/Rational" "numerator" "J" (.long (0 : Int64)) from D6 (Or.inr (wd_30 hw)) (ty := .long) (by decide)) (show Fld Z h6 b6 "com/example/flicker/flicker/game/Rational" "denominator" "J" (.long (0 : Int64)) from D6 (Or.inr (wd_32 hw)) (ty := .long) (by decide))) pd_8 rfl rfl rfl (by decide) (Nat.le_of_ble_eq_true rfl) (by decide) (by decide) (fun T h7 v7 L7 X q7 => ?_)
    obtain ⟨rfl, n7, d7, g7, gp7, en7, ed7, Fn7, Fd7, Ex7, K7⟩ := q7
    show Wp p e below _ (T.setTop (mkF m 75 #[.val (.int k), .val (.int n), .val (.int d), .val (.int u), .val (.int w), .val (.ref sA), .val (.long (((d &&& (2147483647 : Int32)).toInt64) + (1 : Int64))), .second, .val (.long (n.toInt64)), .second, .val (.ref b2), .val (.ref b4), .unset, .unset, .unset, .unset] [(.ref b6)]))
    refine w_astore X #[.val (.int k), .val (.int n), .val (.int d), .val (.int u), .val (.int w), .val (.ref sA), .val (.long (((d &&& (2147483647 : Int32)).toInt64) + (1 : Int64))), .second, .val (.long (n.toInt64)), .second, .val (.ref b2), .val (.ref b4), .val (.ref b6), .unset, .unset, .unset] d_75 (rfl) rfl ?_
    refine w_aload X d_77 rfl (rfl) ?_
    refine w_callV X d_79 (wd_34 hw) (wd_35 hw) (notFace_of_selects (args := #[]) (mvT X.hZ (wd_37 hw))) (wd_37 hw) (wd_36 hw) (wd_5 hw) (wd_38 hw) (by decide) (E_sA.ext X.old.2) (argsL := []) (S := []) (m_bbsA hw S_sA E_sA O_sA S_sB E_sB O_sB S_sC E_sC O_sC S_sE E_sE O_sE) pd_9 rfl rfl rfl (by decide) (Nat.le_of_ble_eq_true rfl) (by decide) (by decide) (fun T h8 v8 L8 X q8 => ?_)
    obtain ⟨rfl, rfl⟩ := q8
    show Wp p e below _ (T.setTop (mkF m 82 #[.val (.int k), .val (.int n), .val (.int d), .val (.int u), .val (.int w), .val (.ref sA), .val (.long (((d &&& (2147483647 : Int32)).toInt64) + (1 : Int64))), .second, .val (.long (n.toInt64)), .second, .val (.ref b2), .val (.ref b4), .val (.ref b6), .unset, .unset, .unset] [(.int (1 : Int32))]))
    refine w_istore X #[.val (.int k), .val (.int n), .val (.int d), .val (.int u), .val (.int w), .val (.ref sA), .val (.long (((d &&& (2147483647 : Int32)).toInt64) + (1 : Int64))), .second, .val (.long (n.toInt64)), .second, .val (.ref b2), .val (.ref b4), .val (.ref b6), .val (.int (1 : Int32)), .unset, .unset] d_82 rfl ?_
    refine w_aload X d_84 rfl (rfl) ?_
    refine w_aload X d_86 rfl (rfl) ?_
    refine w_aload X d_88 rfl (rfl) ?_
    have f1 := ((Ex5.ext E6).keep K7)
    have f2 := ((Fn5.ext E6).keep K7 (by simp only [List.mem_cons, List.not_mem_nil, or_false]; exact (Nat.ne_of_lt (Nat.lt_of_lt_of_le (Nat.lt_of_lt_of_le A4.lt K5.1) (Nat.le_of_eq g6.symm)))))
    have f3 := ((Fd5.ext E6).keep K7 (by simp only [List.mem_cons, List.not_mem_nil, or_false]; exact (Nat.ne_of_lt (Nat.lt_of_lt_of_le (Nat.lt_of_lt_of_le A4.lt K5.1) (Nat.le_of_eq g6.symm)))))
    have f4 := ((((Fn3.ext E4).keep K5 (by simp only [List.mem_cons, List.not_mem_nil, or_false]; exact (Nat.ne_of_lt (Nat.lt_of_lt_of_le (Nat.lt_of_lt_of_le A2.lt K3.1) (Nat.le_of_eq g4.symm))))).ext E6).keep K7 (by simp only [List.mem_cons, List.not_mem_nil, or_false]; exact (Nat.ne_of_lt (Nat.lt_of_lt_of_le (Nat.lt_of_lt_of_le (Nat.lt_of_lt_of_le (Nat.lt_of_lt_of_le A2.lt K3.1) E4.1) K5.1) (Nat.le_of_eq g6.symm)))))
    have f5 := ((((Fd3.ext E4).keep K5 (by simp only [List.mem_cons, List.not_mem_nil, or_false]; exact (Nat.ne_of_lt (Nat.lt_of_lt_of_le (Nat.lt_of_lt_of_le A2.lt K3.1) (Nat.le_of_eq g4.symm))))).ext E6).keep K7 (by simp only [List.mem_cons, List.not_mem_nil, or_false]; exact (Nat.ne_of_lt (Nat.lt_of_lt_of_le (Nat.lt_of_lt_of_le (Nat.lt_of_lt_of_le (Nat.lt_of_lt_of_le A2.lt K3.1) E4.1) K5.1) (Nat.le_of_eq g6.symm)))))
    refine w_callV X d_90 (wd_40 hw) (wd_41 hw) (notFace_of_selects (args := #[]) (mvT X.hZ (wd_43 hw))) (wd_43 hw) (wd_42 hw) (wd_5 hw) (wd_44 hw) (by decide) (E_sA.ext X.old.2) (argsL := [(.ref b4), (.ref b2)]) (S := []) (m_hosA_gt hw S_sA E_sA O_sA S_sB E_sB O_sB S_sC E_sC O_sC S_sE E_sE O_sE f1 f2 f3 f4 f5 (own_cross gp3 gp5 hden en3 ed3 en5 ed5 hup)) pd_10 rfl rfl rfl (by decide) (Nat.le_of_ble_eq_true rfl) (by decide) (by decide) (fun T h9 v9 L9 X q9 => ?_)
    obtain ⟨rfl, rfl⟩ := q9
    show Wp p e below _ (T.setTop (mkF m 93 #[.val (.int k), .val (.int n), .val (.int d), .val (.int u), .val (.int w), .val (.ref sA), .val (.long (((d &&& (2147483647 : Int32)).toInt64) + (1 : Int64))), .second, .val (.long (n.toInt64)), .second, .val (.ref b2), .val (.ref b4), .val (.ref b6), .val (.int (1 : Int32)), .unset, .unset] [(.int (1 : Int32))]))
    refine w_istore X #[.val (.int k), .val (.int n), .val (.int d), .val (.int u), .val (.int w), .val (.ref sA), .val (.long (((d &&& (2147483647 : Int32)).toInt64) + (1 : Int64))), .second, .val (.long (n.toInt64)), .second, .val (.ref b2), .val (.ref b4), .val (.ref b6), .val (.int (1 : Int32)), .val (.int (1 : Int32)), .unset] d_93 rfl ?_
    refine w_aload X d_95 rfl (rfl) ?_
    refine w_aload X d_97 rfl (rfl) ?_
    refine w_aload X d_99 rfl (rfl) ?_
    refine w_callV X d_101 (wd_40 hw) (wd_41 hw) (notFace_of_selects (args := #[]) (mvT X.hZ (wd_43 hw))) (wd_43 hw) (wd_42 hw) (wd_5 hw) (wd_44 hw) (by decide) (E_sA.ext X.old.2) (argsL := [(.ref b6), (.ref b2)]) (S := []) (m_hosA_lt hw S_sA E_sA O_sA S_sB E_sB O_sB S_sC E_sC O_sC S_sE E_sE O_sE Ex7 Fn7 Fd7 f4 f5 (own_cross gp7 gp3 hden en7 ed7 en3 ed3 hdn)) pd_10 rfl rfl rfl (by decide) (Nat.le_of_ble_eq_true rfl) (by decide) (by decide) (fun T h10 v10 L10 X q10 => ?_)
    obtain ⟨rfl, rfl⟩ := q10
    show Wp p e below _ (T.setTop (mkF m 104 #[.val (.int k), .val (.int n), .val (.int d), .val (.int u), .val (.int w), .val (.ref sA), .val (.long (((d &&& (2147483647 : Int32)).toInt64) + (1 : Int64))), .second, .val (.long (n.toInt64)), .second, .val (.ref b2), .val (.ref b4), .val (.ref b6), .val (.int (1 : Int32)), .val (.int (1 : Int32)), .unset] [(.int (0 : Int32))]))
    refine w_istore X #[.val (.int k), .val (.int n), .val (.int d), .val (.int u), .val (.int w), .val (.ref sA), .val (.long (((d &&& (2147483647 : Int32)).toInt64) + (1 : Int64))), .second, .val (.long (n.toInt64)), .second, .val (.ref b2), .val (.ref b4), .val (.ref b6), .val (.int (1 : Int32)), .val (.int (1 : Int32)), .val (.int (0 : Int32))] d_104 rfl ?_
    refine w_iload X d_106 rfl ?_
    refine w_iload X d_108 rfl ?_
    refine w_icmpne X d_110 (fun hc => absurd rfl hc) (fun _ => ?_)
    refine w_iload X d_113 rfl ?_
    refine w_iload X d_115 rfl ?_
    refine w_ifne X d_117 (fun hc => absurd rfl hc) (fun _ => ?_)
    refine w_iconst X (1 : Int32) d_120 rfl ?_
    refine w_goto X d_121 ?_
    refine w_icmpne X d_125 (fun hc => absurd rfl hc) (fun _ => ?_)
    refine w_iconst X (1 : Int32) d_128 rfl ?_
    refine w_goto X d_129 ?_
    exact w_ret_boolean X (1 : Int32) (by decide) d_133 rfl (by decide) (by decide)
  · refine w_iloadN X d_0 rfl ?_
    refine w_iconst X (3 : Int32) d_1 rfl ?_
    refine w_iand X d_2 ?_
    refine w_callS X d_3 (wd_0 hw) (wd_1 hw) (wd_2 hw) (wd_3 hw) (by decide) (argsL := [(.int (k &&& (3 : Int32)))]) (S := []) (m_pick hw (r := sB) (k &&& (3 : Int32)) (by rw [hk]; rfl) S_sA E_sA O_sA S_sB E_sB O_sB S_sC E_sC O_sC S_sE E_sE O_sE) pd_7 rfl rfl rfl (by decide) (Nat.le_of_ble_eq_true rfl) (by decide) (by decide) (fun T h11 v11 L11 X q11 => ?_)
    obtain ⟨rfl, rfl⟩ := q11
    show Wp p e below _ (T.setTop (mkF m 6 #[.val (.int k), .val (.int n), .val (.int d), .val (.int u), .val (.int w), .unset, .unset, .unset, .unset, .unset, .unset, .unset, .unset, .unset, .unset, .unset] [(.ref sB)]))
    refine w_astore X #[.val (.int k), .val (.int n), .val (.int d), .val (.int u), .val (.int w), .val (.ref sB), .unset, .unset, .unset, .unset, .unset, .unset, .unset, .unset, .unset, .unset] d_6 (rfl) rfl ?_
    refine w_iloadN X d_8 rfl ?_
    refine w_ldcI X d_9 (wd_7 hw) ?_
    refine w_iand X d_11 ?_
    refine w_i2l X d_12 ?_
    refine w_lconst X (1 : Int64) d_13 rfl ?_
    refine w_ladd X d_14 ?_
    refine w_lstore X #[.val (.int k), .val (.int n), .val (.int d), .val (.int u), .val (.int w), .val (.ref sB), .val (.long (((d &&& (2147483647 : Int32)).toInt64) + (1 : Int64))), .second, .unset, .unset, .unset, .unset, .unset, .unset, .unset, .unset] d_15 rfl ?_
    refine w_iloadN X d_17 rfl ?_
    refine w_i2l X d_18 ?_
    refine w_lstore X #[.val (.int k), .val (.int n), .val (.int d), .val (.int u), .val (.int w), .val (.ref sB), .val (.long (((d &&& (2147483647 : Int32)).toInt64) + (1 : Int64))), .second, .val (.long (n.toInt64)), .second, .unset, .unset, .unset, .unset, .unset, .unset] d_19 rfl ?_
    refine w_new X d_21 (wd_8 hw) (wd_9 hw) (wd_10 hw) (by decide) (by decide) (fun T h12 b12 g12 gn12 X E12 A12 D12 => ?_)
    refine w_dup X d_24 rfl ?_
    refine w_lload X d_25 rfl ?_
    refine w_lload X d_27 rfl ?_
    refine w_callI X d_29 rfl (wd_11 hw) (wd_12 hw) (wd_10 hw) (wd_13 hw) (by decide) (argsL := [(.long (n.toInt64)), (.long (((d &&& (2147483647 : Int32)).toInt64) + (1 : Int64)))]) (S := [(.ref b12)]) (m_init hw (n.toInt64) (((d &&& (2147483647 : Int32)).toInt64) + (1 : Int64)) hden gn12 A12 (show Fld Z h12 b12 "com/example/flicker/flicker/game/Rational" "numerator" "J" (.long (0 : Int64)) from D12 (Or.inr (wd_30 hw)) (ty := .long) (by decide)) (show Fld Z h12 b12 "com/example/flicker/flicker/game/Rational" "denominator" "J" (.long (0 : Int64)) from D12 (Or.inr (wd_32 hw)) (ty := .long) (by decide))) pd_8 rfl rfl rfl (by decide) (Nat.le_of_ble_eq_true rfl) (by decide) (by decide) (fun T h13 v13 L13 X q13 => ?_)
    obtain ⟨rfl, n13, d13, g13, gp13, en13, ed13, Fn13, Fd13, Ex13, K13⟩ := q13
    show Wp p e below _ (T.setTop (mkF m 32 #[.val (.int k), .val (.int n), .val (.int d), .val (.int u), .val (.int w), .val (.ref sB), .val (.long (((d &&& (2147483647 : Int32)).toInt64) + (1 : Int64))), .second, .val (.long (n.toInt64)), .second, .unset, .unset, .unset, .unset, .unset, .unset] [(.ref b12)]))
    refine w_astore X #[.val (.int k), .val (.int n), .val (.int d), .val (.int u), .val (.int w), .val (.ref sB), .val (.long (((d &&& (2147483647 : Int32)).toInt64) + (1 : Int64))), .second, .val (.long (n.toInt64)), .second, .val (.ref b12), .unset, .unset, .unset, .unset, .unset] d_32 (rfl) rfl ?_
    refine w_new X d_34 (wd_8 hw) (wd_9 hw) (wd_10 hw) (by decide) (by decide) (fun T h14 b14 g14 gn14 X E14 A14 D14 => ?_)
    refine w_dup X d_37 rfl ?_
    refine w_lload X d_38 rfl ?_
    refine w_lconst X (1 : Int64) d_40 rfl ?_
    refine w_ladd X d_41 ?_
    refine w_iloadN X d_42 rfl ?_
    refine w_ldcI X d_43 (wd_33 hw) ?_
    refine w_iand X d_45 ?_
    refine w_i2l X d_46 ?_
    refine w_ladd X d_47 ?_
    refine w_lload X d_48 rfl ?_
    refine w_callI X d_50 rfl (wd_11 hw) (wd_12 hw) (wd_10 hw) (wd_13 hw) (by decide) (argsL := [(.long (((n.toInt64) + (1 : Int64)) + ((u &&& (65535 : Int32)).toInt64))), (.long (((d &&& (2147483647 : Int32)).toInt64) + (1 : Int64)))]) (S := [(.ref b14)]) (m_init hw (((n.toInt64) + (1 : Int64)) + ((u &&& (65535 : Int32)).toInt64)) (((d &&& (2147483647 : Int32)).toInt64) + (1 : Int64)) hden gn14 A14 (show Fld Z h14 b14 "com/example/flicker/flicker/game/Rational" "numerator" "J" (.long (0 : Int64)) from D14 (Or.inr (wd_30 hw)) (ty := .long) (by decide)) (show Fld Z h14 b14 "com/example/flicker/flicker/game/Rational" "denominator" "J" (.long (0 : Int64)) from D14 (Or.inr (wd_32 hw)) (ty := .long) (by decide))) pd_8 rfl rfl rfl (by decide) (Nat.le_of_ble_eq_true rfl) (by decide) (by decide) (fun T h15 v15 L15 X q15 => ?_)
    obtain ⟨rfl, n15, d15, g15, gp15, en15, ed15, Fn15, Fd15, Ex15, K15⟩ := q15
    show Wp p e below _ (T.setTop (mkF m 53 #[.val (.int k), .val (.int n), .val (.int d), .val (.int u), .val (.int w), .val (.ref sB), .val (.long (((d &&& (2147483647 : Int32)).toInt64) + (1 : Int64))), .second, .val (.long (n.toInt64)), .second, .val (.ref b12), .unset, .unset, .unset, .unset, .unset] [(.ref b14)]))
    refine w_astore X #[.val (.int k), .val (.int n), .val (.int d), .val (.int u), .val (.int w), .val (.ref sB), .val (.long (((d &&& (2147483647 : Int32)).toInt64) + (1 : Int64))), .second, .val (.long (n.toInt64)), .second, .val (.ref b12), .val (.ref b14), .unset, .unset, .unset, .unset] d_53 (rfl) rfl ?_
    refine w_new X d_55 (wd_8 hw) (wd_9 hw) (wd_10 hw) (by decide) (by decide) (fun T h16 b16 g16 gn16 X E16 A16 D16 => ?_)
    refine w_dup X d_58 rfl ?_
    refine w_lload X d_59 rfl ?_
    refine w_lconst X (1 : Int64) d_61 rfl ?_
    refine w_lsub X d_62 ?_
    refine w_iload X d_63 rfl ?_
    refine w_ldcI X d_65 (wd_33 hw) ?_
    refine w_iand X d_67 ?_
    refine w_i2l X d_68 ?_
    refine w_lsub X d_69 ?_
    refine w_lload X d_70 rfl ?_
    refine w_callI X d_72 rfl (wd_11 hw) (wd_12 hw) (wd_10 hw) (wd_13 hw) (by decide) (argsL := [(.long (((n.toInt64) - (1 : Int64)) - ((w &&& (65535 : Int32)).toInt64))), (.long (((d &&& (2147483647 : Int32)).toInt64) + (1 : Int64)))]) (S := [(.ref b16)]) (m_init hw (((n.toInt64) - (1 : Int64)) - ((w &&& (65535 : Int32)).toInt64)) (((d &&& (2147483647 : Int32)).toInt64) + (1 : Int64)) hden gn16 A16 (show Fld Z h16 b16 "com/example/flicker/flicker/game/Rational" "numerator" "J" (.long (0 : Int64)) from D16 (Or.inr (wd_30 hw)) (ty := .long) (by decide)) (show Fld Z h16 b16 "com/example/flicker/flicker/game/Rational" "denominator" "J" (.long (0 : Int64)) from D16 (Or.inr (wd_32 hw)) (ty := .long) (by decide))) pd_8 rfl rfl rfl (by decide) (Nat.le_of_ble_eq_true rfl) (by decide) (by decide) (fun T h17 v17 L17 X q17 => ?_)
    obtain ⟨rfl, n17, d17, g17, gp17, en17, ed17, Fn17, Fd17, Ex17, K17⟩ := q17
    show Wp p e below _ (T.setTop (mkF m 75 #[.val (.int k), .val (.int n), .val (.int d), .val (.int u), .val (.int w), .val (.ref sB), .val (.long (((d &&& (2147483647 : Int32)).toInt64) + (1 : Int64))), .second, .val (.long (n.toInt64)), .second, .val (.ref b12), .val (.ref b14), .unset, .unset, .unset, .unset] [(.ref b16)]))
    refine w_astore X #[.val (.int k), .val (.int n), .val (.int d), .val (.int u), .val (.int w), .val (.ref sB), .val (.long (((d &&& (2147483647 : Int32)).toInt64) + (1 : Int64))), .second, .val (.long (n.toInt64)), .second, .val (.ref b12), .val (.ref b14), .val (.ref b16), .unset, .unset, .unset] d_75 (rfl) rfl ?_
    refine w_aload X d_77 rfl (rfl) ?_
    refine w_callV X d_79 (wd_34 hw) (wd_35 hw) (notFace_of_selects (args := #[]) (mvT X.hZ (wd_37 hw))) (wd_37 hw) (wd_36 hw) (wd_5 hw) (wd_38 hw) (by decide) (E_sB.ext X.old.2) (argsL := []) (S := []) (m_bbsB hw S_sA E_sA O_sA S_sB E_sB O_sB S_sC E_sC O_sC S_sE E_sE O_sE) pd_9 rfl rfl rfl (by decide) (Nat.le_of_ble_eq_true rfl) (by decide) (by decide) (fun T h18 v18 L18 X q18 => ?_)
    obtain ⟨rfl, rfl⟩ := q18
    show Wp p e below _ (T.setTop (mkF m 82 #[.val (.int k), .val (.int n), .val (.int d), .val (.int u), .val (.int w), .val (.ref sB), .val (.long (((d &&& (2147483647 : Int32)).toInt64) + (1 : Int64))), .second, .val (.long (n.toInt64)), .second, .val (.ref b12), .val (.ref b14), .val (.ref b16), .unset, .unset, .unset] [(.int (1 : Int32))]))
    refine w_istore X #[.val (.int k), .val (.int n), .val (.int d), .val (.int u), .val (.int w), .val (.ref sB), .val (.long (((d &&& (2147483647 : Int32)).toInt64) + (1 : Int64))), .second, .val (.long (n.toInt64)), .second, .val (.ref b12), .val (.ref b14), .val (.ref b16), .val (.int (1 : Int32)), .unset, .unset] d_82 rfl ?_
    refine w_aload X d_84 rfl (rfl) ?_
    refine w_aload X d_86 rfl (rfl) ?_
    refine w_aload X d_88 rfl (rfl) ?_
    have f6 := ((Ex15.ext E16).keep K17)
    have f7 := ((Fn15.ext E16).keep K17 (by simp only [List.mem_cons, List.not_mem_nil, or_false]; exact (Nat.ne_of_lt (Nat.lt_of_lt_of_le (Nat.lt_of_lt_of_le A14.lt K15.1) (Nat.le_of_eq g16.symm)))))
    have f8 := ((Fd15.ext E16).keep K17 (by simp only [List.mem_cons, List.not_mem_nil, or_false]; exact (Nat.ne_of_lt (Nat.lt_of_lt_of_le (Nat.lt_of_lt_of_le A14.lt K15.1) (Nat.le_of_eq g16.symm)))))
    have f9 := ((((Fn13.ext E14).keep K15 (by simp only [List.mem_cons, List.not_mem_nil, or_false]; exact (Nat.ne_of_lt (Nat.lt_of_lt_of_le (Nat.lt_of_lt_of_le A12.lt K13.1) (Nat.le_of_eq g14.symm))))).ext E16).keep K17 (by simp only [List.mem_cons, List.not_mem_nil, or_false]; exact (Nat.ne_of_lt (Nat.lt_of_lt_of_le (Nat.lt_of_lt_of_le (Nat.lt_of_lt_of_le (Nat.lt_of_lt_of_le A12.lt K13.1) E14.1) K15.1) (Nat.le_of_eq g16.symm)))))
    have f10 := ((((Fd13.ext E14).keep K15 (by simp only [List.mem_cons, List.not_mem_nil, or_false]; exact (Nat.ne_of_lt (Nat.lt_of_lt_of_le (Nat.lt_of_lt_of_le A12.lt K13.1) (Nat.le_of_eq g14.symm))))).ext E16).keep K17 (by simp only [List.mem_cons, List.not_mem_nil, or_false]; exact (Nat.ne_of_lt (Nat.lt_of_lt_of_le (Nat.lt_of_lt_of_le (Nat.lt_of_lt_of_le (Nat.lt_of_lt_of_le A12.lt K13.1) E14.1) K15.1) (Nat.le_of_eq g16.symm)))))
    refine w_callV X d_90 (wd_40 hw) (wd_41 hw) (notFace_of_selects (args := #[]) (mvT X.hZ (wd_43 hw))) (wd_43 hw) (wd_42 hw) (wd_5 hw) (wd_44 hw) (by decide) (E_sB.ext X.old.2) (argsL := [(.ref b14), (.ref b12)]) (S := []) (m_hosB_gt hw S_sA E_sA O_sA S_sB E_sB O_sB S_sC E_sC O_sC S_sE E_sE O_sE f6 f7 f8 f9 f10 (own_cross gp13 gp15 hden en13 ed13 en15 ed15 hup)) pd_10 rfl rfl rfl (by decide) (Nat.le_of_ble_eq_true rfl) (by decide) (by decide) (fun T h19 v19 L19 X q19 => ?_)
    obtain ⟨rfl, rfl⟩ := q19
    show Wp p e below _ (T.setTop (mkF m 93 #[.val (.int k), .val (.int n), .val (.int d), .val (.int u), .val (.int w), .val (.ref sB), .val (.long (((d &&& (2147483647 : Int32)).toInt64) + (1 : Int64))), .second, .val (.long (n.toInt64)), .second, .val (.ref b12), .val (.ref b14), .val (.ref b16), .val (.int (1 : Int32)), .unset, .unset] [(.int (1 : Int32))]))
    refine w_istore X #[.val (.int k), .val (.int n), .val (.int d), .val (.int u), .val (.int w), .val (.ref sB), .val (.long (((d &&& (2147483647 : Int32)).toInt64) + (1 : Int64))), .second, .val (.long (n.toInt64)), .second, .val (.ref b12), .val (.ref b14), .val (.ref b16), .val (.int (1 : Int32)), .val (.int (1 : Int32)), .unset] d_93 rfl ?_
    refine w_aload X d_95 rfl (rfl) ?_
    refine w_aload X d_97 rfl (rfl) ?_
    refine w_aload X d_99 rfl (rfl) ?_
    refine w_callV X d_101 (wd_40 hw) (wd_41 hw) (notFace_of_selects (args := #[]) (mvT X.hZ (wd_43 hw))) (wd_43 hw) (wd_42 hw) (wd_5 hw) (wd_44 hw) (by decide) (E_sB.ext X.old.2) (argsL := [(.ref b16), (.ref b12)]) (S := []) (m_hosB_lt hw S_sA E_sA O_sA S_sB E_sB O_sB S_sC E_sC O_sC S_sE E_sE O_sE Ex17 Fn17 Fd17 f9 f10 (own_cross gp17 gp13 hden en17 ed17 en13 ed13 hdn)) pd_10 rfl rfl rfl (by decide) (Nat.le_of_ble_eq_true rfl) (by decide) (by decide) (fun T h20 v20 L20 X q20 => ?_)
    obtain ⟨rfl, rfl⟩ := q20
    show Wp p e below _ (T.setTop (mkF m 104 #[.val (.int k), .val (.int n), .val (.int d), .val (.int u), .val (.int w), .val (.ref sB), .val (.long (((d &&& (2147483647 : Int32)).toInt64) + (1 : Int64))), .second, .val (.long (n.toInt64)), .second, .val (.ref b12), .val (.ref b14), .val (.ref b16), .val (.int (1 : Int32)), .val (.int (1 : Int32)), .unset] [(.int (0 : Int32))]))
    refine w_istore X #[.val (.int k), .val (.int n), .val (.int d), .val (.int u), .val (.int w), .val (.ref sB), .val (.long (((d &&& (2147483647 : Int32)).toInt64) + (1 : Int64))), .second, .val (.long (n.toInt64)), .second, .val (.ref b12), .val (.ref b14), .val (.ref b16), .val (.int (1 : Int32)), .val (.int (1 : Int32)), .val (.int (0 : Int32))] d_104 rfl ?_
    refine w_iload X d_106 rfl ?_
    refine w_iload X d_108 rfl ?_
    refine w_icmpne X d_110 (fun hc => absurd rfl hc) (fun _ => ?_)
    refine w_iload X d_113 rfl ?_
    refine w_iload X d_115 rfl ?_
    refine w_ifne X d_117 (fun hc => absurd rfl hc) (fun _ => ?_)
    refine w_iconst X (1 : Int32) d_120 rfl ?_
    refine w_goto X d_121 ?_
    refine w_icmpne X d_125 (fun hc => absurd rfl hc) (fun _ => ?_)
    refine w_iconst X (1 : Int32) d_128 rfl ?_
    refine w_goto X d_129 ?_
    exact w_ret_boolean X (1 : Int32) (by decide) d_133 rfl (by decide) (by decide)
  · refine w_iloadN X d_0 rfl ?_
    refine w_iconst X (3 : Int32) d_1 rfl ?_
    refine w_iand X d_2 ?_
    refine w_callS X d_3 (wd_0 hw) (wd_1 hw) (wd_2 hw) (wd_3 hw) (by decide) (argsL := [(.int (k &&& (3 : Int32)))]) (S := []) (m_pick hw (r := sC) (k &&& (3 : Int32)) (by rw [hk]; rfl) S_sA E_sA O_sA S_sB E_sB O_sB S_sC E_sC O_sC S_sE E_sE O_sE) pd_7 rfl rfl rfl (by decide) (Nat.le_of_ble_eq_true rfl) (by decide) (by decide) (fun T h21 v21 L21 X q21 => ?_)
    obtain ⟨rfl, rfl⟩ := q21
    show Wp p e below _ (T.setTop (mkF m 6 #[.val (.int k), .val (.int n), .val (.int d), .val (.int u), .val (.int w), .unset, .unset, .unset, .unset, .unset, .unset, .unset, .unset, .unset, .unset, .unset] [(.ref sC)]))
    refine w_astore X #[.val (.int k), .val (.int n), .val (.int d), .val (.int u), .val (.int w), .val (.ref sC), .unset, .unset, .unset, .unset, .unset, .unset, .unset, .unset, .unset, .unset] d_6 (rfl) rfl ?_
    refine w_iloadN X d_8 rfl ?_
    refine w_ldcI X d_9 (wd_7 hw) ?_
    refine w_iand X d_11 ?_
    refine w_i2l X d_12 ?_
    refine w_lconst X (1 : Int64) d_13 rfl ?_
    refine w_ladd X d_14 ?_
    refine w_lstore X #[.val (.int k), .val (.int n), .val (.int d), .val (.int u), .val (.int w), .val (.ref sC), .val (.long (((d &&& (2147483647 : Int32)).toInt64) + (1 : Int64))), .second, .unset, .unset, .unset, .unset, .unset, .unset, .unset, .unset] d_15 rfl ?_
    refine w_iloadN X d_17 rfl ?_
    refine w_i2l X d_18 ?_
    refine w_lstore X #[.val (.int k), .val (.int n), .val (.int d), .val (.int u), .val (.int w), .val (.ref sC), .val (.long (((d &&& (2147483647 : Int32)).toInt64) + (1 : Int64))), .second, .val (.long (n.toInt64)), .second, .unset, .unset, .unset, .unset, .unset, .unset] d_19 rfl ?_
    refine w_new X d_21 (wd_8 hw) (wd_9 hw) (wd_10 hw) (by decide) (by decide) (fun T h22 b22 g22 gn22 X E22 A22 D22 => ?_)
    refine w_dup X d_24 rfl ?_
    refine w_lload X d_25 rfl ?_
    refine w_lload X d_27 rfl ?_
    refine w_callI X d_29 rfl (wd_11 hw) (wd_12 hw) (wd_10 hw) (wd_13 hw) (by decide) (argsL := [(.long (n.toInt64)), (.long (((d &&& (2147483647 : Int32)).toInt64) + (1 : Int64)))]) (S := [(.ref b22)]) (m_init hw (n.toInt64) (((d &&& (2147483647 : Int32)).toInt64) + (1 : Int64)) hden gn22 A22 (show Fld Z h22 b22 "com/example/flicker/flicker/game/Rational" "numerator" "J" (.long (0 : Int64)) from D22 (Or.inr (wd_30 hw)) (ty := .long) (by decide)) (show Fld Z h22 b22 "com/example/flicker/flicker/game/Rational" "denominator" "J" (.long (0 : Int64)) from D22 (Or.inr (wd_32 hw)) (ty := .long) (by decide))) pd_8 rfl rfl rfl (by decide) (Nat.le_of_ble_eq_true rfl) (by decide) (by decide) (fun T h23 v23 L23 X q23 => ?_)
    obtain ⟨rfl, n23, d23, g23, gp23, en23, ed23, Fn23, Fd23, Ex23, K23⟩ := q23
    show Wp p e below _ (T.setTop (mkF m 32 #[.val (.int k), .val (.int n), .val (.int d), .val (.int u), .val (.int w), .val (.ref sC), .val (.long (((d &&& (2147483647 : Int32)).toInt64) + (1 : Int64))), .second, .val (.long (n.toInt64)), .second, .unset, .unset, .unset, .unset, .unset, .unset] [(.ref b22)]))
    refine w_astore X #[.val (.int k), .val (.int n), .val (.int d), .val (.int u), .val (.int w), .val (.ref sC), .val (.long (((d &&& (2147483647 : Int32)).toInt64) + (1 : Int64))), .second, .val (.long (n.toInt64)), .second, .val (.ref b22), .unset, .unset, .unset, .unset, .unset] d_32 (rfl) rfl ?_
    refine w_new X d_34 (wd_8 hw) (wd_9 hw) (wd_10 hw) (by decide) (by decide) (fun T h24 b24 g24 gn24 X E24 A24 D24 => ?_)
    refine w_dup X d_37 rfl ?_
    refine w_lload X d_38 rfl ?_
    refine w_lconst X (1 : Int64) d_40 rfl ?_
    refine w_ladd X d_41 ?_
    refine w_iloadN X d_42 rfl ?_
    refine w_ldcI X d_43 (wd_33 hw) ?_
    refine w_iand X d_45 ?_
    refine w_i2l X d_46 ?_
    refine w_ladd X d_47 ?_
    refine w_lload X d_48 rfl ?_
    refine w_callI X d_50 rfl (wd_11 hw) (wd_12 hw) (wd_10 hw) (wd_13 hw) (by decide) (argsL := [(.long (((n.toInt64) + (1 : Int64)) + ((u &&& (65535 : Int32)).toInt64))), (.long (((d &&& (2147483647 : Int32)).toInt64) + (1 : Int64)))]) (S := [(.ref b24)]) (m_init hw (((n.toInt64) + (1 : Int64)) + ((u &&& (65535 : Int32)).toInt64)) (((d &&& (2147483647 : Int32)).toInt64) + (1 : Int64)) hden gn24 A24 (show Fld Z h24 b24 "com/example/flicker/flicker/game/Rational" "numerator" "J" (.long (0 : Int64)) from D24 (Or.inr (wd_30 hw)) (ty := .long) (by decide)) (show Fld Z h24 b24 "com/example/flicker/flicker/game/Rational" "denominator" "J" (.long (0 : Int64)) from D24 (Or.inr (wd_32 hw)) (ty := .long) (by decide))) pd_8 rfl rfl rfl (by decide) (Nat.le_of_ble_eq_true rfl) (by decide) (by decide) (fun T h25 v25 L25 X q25 => ?_)
    obtain ⟨rfl, n25, d25, g25, gp25, en25, ed25, Fn25, Fd25, Ex25, K25⟩ := q25
    show Wp p e below _ (T.setTop (mkF m 53 #[.val (.int k), .val (.int n), .val (.int d), .val (.int u), .val (.int w), .val (.ref sC), .val (.long (((d &&& (2147483647 : Int32)).toInt64) + (1 : Int64))), .second, .val (.long (n.toInt64)), .second, .val (.ref b22), .unset, .unset, .unset, .unset, .unset] [(.ref b24)]))
    refine w_astore X #[.val (.int k), .val (.int n), .val (.int d), .val (.int u), .val (.int w), .val (.ref sC), .val (.long (((d &&& (2147483647 : Int32)).toInt64) + (1 : Int64))), .second, .val (.long (n.toInt64)), .second, .val (.ref b22), .val (.ref b24), .unset, .unset, .unset, .unset] d_53 (rfl) rfl ?_
    refine w_new X d_55 (wd_8 hw) (wd_9 hw) (wd_10 hw) (by decide) (by decide) (fun T h26 b26 g26 gn26 X E26 A26 D26 => ?_)
    refine w_dup X d_58 rfl ?_
    refine w_lload X d_59 rfl ?_
    refine w_lconst X (1 : Int64) d_61 rfl ?_
    refine w_lsub X d_62 ?_
    refine w_iload X d_63 rfl ?_
    refine w_ldcI X d_65 (wd_33 hw) ?_
    refine w_iand X d_67 ?_
    refine w_i2l X d_68 ?_
    refine w_lsub X d_69 ?_
    refine w_lload X d_70 rfl ?_
    refine w_callI X d_72 rfl (wd_11 hw) (wd_12 hw) (wd_10 hw) (wd_13 hw) (by decide) (argsL := [(.long (((n.toInt64) - (1 : Int64)) - ((w &&& (65535 : Int32)).toInt64))), (.long (((d &&& (2147483647 : Int32)).toInt64) + (1 : Int64)))]) (S := [(.ref b26)]) (m_init hw (((n.toInt64) - (1 : Int64)) - ((w &&& (65535 : Int32)).toInt64)) (((d &&& (2147483647 : Int32)).toInt64) + (1 : Int64)) hden gn26 A26 (show Fld Z h26 b26 "com/example/flicker/flicker/game/Rational" "numerator" "J" (.long (0 : Int64)) from D26 (Or.inr (wd_30 hw)) (ty := .long) (by decide)) (show Fld Z h26 b26 "com/example/flicker/flicker/game/Rational" "denominator" "J" (.long (0 : Int64)) from D26 (Or.inr (wd_32 hw)) (ty := .long) (by decide))) pd_8 rfl rfl rfl (by decide) (Nat.le_of_ble_eq_true rfl) (by decide) (by decide) (fun T h27 v27 L27 X q27 => ?_)
    obtain ⟨rfl, n27, d27, g27, gp27, en27, ed27, Fn27, Fd27, Ex27, K27⟩ := q27
    show Wp p e below _ (T.setTop (mkF m 75 #[.val (.int k), .val (.int n), .val (.int d), .val (.int u), .val (.int w), .val (.ref sC), .val (.long (((d &&& (2147483647 : Int32)).toInt64) + (1 : Int64))), .second, .val (.long (n.toInt64)), .second, .val (.ref b22), .val (.ref b24), .unset, .unset, .unset, .unset] [(.ref b26)]))
    refine w_astore X #[.val (.int k), .val (.int n), .val (.int d), .val (.int u), .val (.int w), .val (.ref sC), .val (.long (((d &&& (2147483647 : Int32)).toInt64) + (1 : Int64))), .second, .val (.long (n.toInt64)), .second, .val (.ref b22), .val (.ref b24), .val (.ref b26), .unset, .unset, .unset] d_75 (rfl) rfl ?_
    refine w_aload X d_77 rfl (rfl) ?_
    refine w_callV X d_79 (wd_34 hw) (wd_35 hw) (notFace_of_selects (args := #[]) (mvT X.hZ (wd_37 hw))) (wd_37 hw) (wd_36 hw) (wd_5 hw) (wd_38 hw) (by decide) (E_sC.ext X.old.2) (argsL := []) (S := []) (m_bbsC hw S_sA E_sA O_sA S_sB E_sB O_sB S_sC E_sC O_sC S_sE E_sE O_sE) pd_9 rfl rfl rfl (by decide) (Nat.le_of_ble_eq_true rfl) (by decide) (by decide) (fun T h28 v28 L28 X q28 => ?_)
    obtain ⟨rfl, rfl⟩ := q28
    show Wp p e below _ (T.setTop (mkF m 82 #[.val (.int k), .val (.int n), .val (.int d), .val (.int u), .val (.int w), .val (.ref sC), .val (.long (((d &&& (2147483647 : Int32)).toInt64) + (1 : Int64))), .second, .val (.long (n.toInt64)), .second, .val (.ref b22), .val (.ref b24), .val (.ref b26), .unset, .unset, .unset] [(.int (0 : Int32))]))
    refine w_istore X #[.val (.int k), .val (.int n), .val (.int d), .val (.int u), .val (.int w), .val (.ref sC), .val (.long (((d &&& (2147483647 : Int32)).toInt64) + (1 : Int64))), .second, .val (.long (n.toInt64)), .second, .val (.ref b22), .val (.ref b24), .val (.ref b26), .val (.int (0 : Int32)), .unset, .unset] d_82 rfl ?_
    refine w_aload X d_84 rfl (rfl) ?_
    refine w_aload X d_86 rfl (rfl) ?_
    refine w_aload X d_88 rfl (rfl) ?_
    have f11 := ((Ex25.ext E26).keep K27)
    have f12 := ((Fn25.ext E26).keep K27 (by simp only [List.mem_cons, List.not_mem_nil, or_false]; exact (Nat.ne_of_lt (Nat.lt_of_lt_of_le (Nat.lt_of_lt_of_le A24.lt K25.1) (Nat.le_of_eq g26.symm)))))
    have f13 := ((Fd25.ext E26).keep K27 (by simp only [List.mem_cons, List.not_mem_nil, or_false]; exact (Nat.ne_of_lt (Nat.lt_of_lt_of_le (Nat.lt_of_lt_of_le A24.lt K25.1) (Nat.le_of_eq g26.symm)))))
    have f14 := ((((Fn23.ext E24).keep K25 (by simp only [List.mem_cons, List.not_mem_nil, or_false]; exact (Nat.ne_of_lt (Nat.lt_of_lt_of_le (Nat.lt_of_lt_of_le A22.lt K23.1) (Nat.le_of_eq g24.symm))))).ext E26).keep K27 (by simp only [List.mem_cons, List.not_mem_nil, or_false]; exact (Nat.ne_of_lt (Nat.lt_of_lt_of_le (Nat.lt_of_lt_of_le (Nat.lt_of_lt_of_le (Nat.lt_of_lt_of_le A22.lt K23.1) E24.1) K25.1) (Nat.le_of_eq g26.symm)))))
    have f15 := ((((Fd23.ext E24).keep K25 (by simp only [List.mem_cons, List.not_mem_nil, or_false]; exact (Nat.ne_of_lt (Nat.lt_of_lt_of_le (Nat.lt_of_lt_of_le A22.lt K23.1) (Nat.le_of_eq g24.symm))))).ext E26).keep K27 (by simp only [List.mem_cons, List.not_mem_nil, or_false]; exact (Nat.ne_of_lt (Nat.lt_of_lt_of_le (Nat.lt_of_lt_of_le (Nat.lt_of_lt_of_le (Nat.lt_of_lt_of_le A22.lt K23.1) E24.1) K25.1) (Nat.le_of_eq g26.symm)))))
    refine w_callV X d_90 (wd_40 hw) (wd_41 hw) (notFace_of_selects (args := #[]) (mvT X.hZ (wd_43 hw))) (wd_43 hw) (wd_42 hw) (wd_5 hw) (wd_44 hw) (by decide) (E_sC.ext X.old.2) (argsL := [(.ref b24), (.ref b22)]) (S := []) (m_hosC_gt hw S_sA E_sA O_sA S_sB E_sB O_sB S_sC E_sC O_sC S_sE E_sE O_sE f11 f12 f13 f14 f15 (own_cross gp23 gp25 hden en23 ed23 en25 ed25 hup)) pd_10 rfl rfl rfl (by decide) (Nat.le_of_ble_eq_true rfl) (by decide) (by decide) (fun T h29 v29 L29 X q29 => ?_)
    obtain ⟨rfl, rfl⟩ := q29
    show Wp p e below _ (T.setTop (mkF m 93 #[.val (.int k), .val (.int n), .val (.int d), .val (.int u), .val (.int w), .val (.ref sC), .val (.long (((d &&& (2147483647 : Int32)).toInt64) + (1 : Int64))), .second, .val (.long (n.toInt64)), .second, .val (.ref b22), .val (.ref b24), .val (.ref b26), .val (.int (0 : Int32)), .unset, .unset] [(.int (0 : Int32))]))
    refine w_istore X #[.val (.int k), .val (.int n), .val (.int d), .val (.int u), .val (.int w), .val (.ref sC), .val (.long (((d &&& (2147483647 : Int32)).toInt64) + (1 : Int64))), .second, .val (.long (n.toInt64)), .second, .val (.ref b22), .val (.ref b24), .val (.ref b26), .val (.int (0 : Int32)), .val (.int (0 : Int32)), .unset] d_93 rfl ?_
    refine w_aload X d_95 rfl (rfl) ?_
    refine w_aload X d_97 rfl (rfl) ?_
    refine w_aload X d_99 rfl (rfl) ?_
    refine w_callV X d_101 (wd_40 hw) (wd_41 hw) (notFace_of_selects (args := #[]) (mvT X.hZ (wd_43 hw))) (wd_43 hw) (wd_42 hw) (wd_5 hw) (wd_44 hw) (by decide) (E_sC.ext X.old.2) (argsL := [(.ref b26), (.ref b22)]) (S := []) (m_hosC_lt hw S_sA E_sA O_sA S_sB E_sB O_sB S_sC E_sC O_sC S_sE E_sE O_sE Ex27 Fn27 Fd27 f14 f15 (own_cross gp27 gp23 hden en27 ed27 en23 ed23 hdn)) pd_10 rfl rfl rfl (by decide) (Nat.le_of_ble_eq_true rfl) (by decide) (by decide) (fun T h30 v30 L30 X q30 => ?_)
    obtain ⟨rfl, rfl⟩ := q30
    show Wp p e below _ (T.setTop (mkF m 104 #[.val (.int k), .val (.int n), .val (.int d), .val (.int u), .val (.int w), .val (.ref sC), .val (.long (((d &&& (2147483647 : Int32)).toInt64) + (1 : Int64))), .second, .val (.long (n.toInt64)), .second, .val (.ref b22), .val (.ref b24), .val (.ref b26), .val (.int (0 : Int32)), .val (.int (0 : Int32)), .unset] [(.int (1 : Int32))]))
    refine w_istore X #[.val (.int k), .val (.int n), .val (.int d), .val (.int u), .val (.int w), .val (.ref sC), .val (.long (((d &&& (2147483647 : Int32)).toInt64) + (1 : Int64))), .second, .val (.long (n.toInt64)), .second, .val (.ref b22), .val (.ref b24), .val (.ref b26), .val (.int (0 : Int32)), .val (.int (0 : Int32)), .val (.int (1 : Int32))] d_104 rfl ?_
    refine w_iload X d_106 rfl ?_
    refine w_iload X d_108 rfl ?_
    refine w_icmpne X d_110 (fun hc => absurd rfl hc) (fun _ => ?_)
    refine w_iload X d_113 rfl ?_
    refine w_iload X d_115 rfl ?_
    refine w_ifne X d_117 (fun _ => ?_) (fun hc => absurd hc (by decide))
    refine w_iconst X (0 : Int32) d_124 rfl ?_
    refine w_icmpne X d_125 (fun hc => absurd rfl hc) (fun _ => ?_)
    refine w_iconst X (1 : Int32) d_128 rfl ?_
    refine w_goto X d_129 ?_
    exact w_ret_boolean X (1 : Int32) (by decide) d_133 rfl (by decide) (by decide)
  · refine w_iloadN X d_0 rfl ?_
    refine w_iconst X (3 : Int32) d_1 rfl ?_
    refine w_iand X d_2 ?_
    refine w_callS X d_3 (wd_0 hw) (wd_1 hw) (wd_2 hw) (wd_3 hw) (by decide) (argsL := [(.int (k &&& (3 : Int32)))]) (S := []) (m_pick hw (r := sE) (k &&& (3 : Int32)) (by rw [hk]; rfl) S_sA E_sA O_sA S_sB E_sB O_sB S_sC E_sC O_sC S_sE E_sE O_sE) pd_7 rfl rfl rfl (by decide) (Nat.le_of_ble_eq_true rfl) (by decide) (by decide) (fun T h31 v31 L31 X q31 => ?_)
    obtain ⟨rfl, rfl⟩ := q31
    show Wp p e below _ (T.setTop (mkF m 6 #[.val (.int k), .val (.int n), .val (.int d), .val (.int u), .val (.int w), .unset, .unset, .unset, .unset, .unset, .unset, .unset, .unset, .unset, .unset, .unset] [(.ref sE)]))
    refine w_astore X #[.val (.int k), .val (.int n), .val (.int d), .val (.int u), .val (.int w), .val (.ref sE), .unset, .unset, .unset, .unset, .unset, .unset, .unset, .unset, .unset, .unset] d_6 (rfl) rfl ?_
    refine w_iloadN X d_8 rfl ?_
    refine w_ldcI X d_9 (wd_7 hw) ?_
    refine w_iand X d_11 ?_
    refine w_i2l X d_12 ?_
    refine w_lconst X (1 : Int64) d_13 rfl ?_
    refine w_ladd X d_14 ?_
    refine w_lstore X #[.val (.int k), .val (.int n), .val (.int d), .val (.int u), .val (.int w), .val (.ref sE), .val (.long (((d &&& (2147483647 : Int32)).toInt64) + (1 : Int64))), .second, .unset, .unset, .unset, .unset, .unset, .unset, .unset, .unset] d_15 rfl ?_
    refine w_iloadN X d_17 rfl ?_
    refine w_i2l X d_18 ?_
    refine w_lstore X #[.val (.int k), .val (.int n), .val (.int d), .val (.int u), .val (.int w), .val (.ref sE), .val (.long (((d &&& (2147483647 : Int32)).toInt64) + (1 : Int64))), .second, .val (.long (n.toInt64)), .second, .unset, .unset, .unset, .unset, .unset, .unset] d_19 rfl ?_
    refine w_new X d_21 (wd_8 hw) (wd_9 hw) (wd_10 hw) (by decide) (by decide) (fun T h32 b32 g32 gn32 X E32 A32 D32 => ?_)
    refine w_dup X d_24 rfl ?_
    refine w_lload X d_25 rfl ?_
    refine w_lload X d_27 rfl ?_
    refine w_callI X d_29 rfl (wd_11 hw) (wd_12 hw) (wd_10 hw) (wd_13 hw) (by decide) (argsL := [(.long (n.toInt64)), (.long (((d &&& (2147483647 : Int32)).toInt64) + (1 : Int64)))]) (S := [(.ref b32)]) (m_init hw (n.toInt64) (((d &&& (2147483647 : Int32)).toInt64) + (1 : Int64)) hden gn32 A32 (show Fld Z h32 b32 "com/example/flicker/flicker/game/Rational" "numerator" "J" (.long (0 : Int64)) from D32 (Or.inr (wd_30 hw)) (ty := .long) (by decide)) (show Fld Z h32 b32 "com/example/flicker/flicker/game/Rational" "denominator" "J" (.long (0 : Int64)) from D32 (Or.inr (wd_32 hw)) (ty := .long) (by decide))) pd_8 rfl rfl rfl (by decide) (Nat.le_of_ble_eq_true rfl) (by decide) (by decide) (fun T h33 v33 L33 X q33 => ?_)
    obtain ⟨rfl, n33, d33, g33, gp33, en33, ed33, Fn33, Fd33, Ex33, K33⟩ := q33
    show Wp p e below _ (T.setTop (mkF m 32 #[.val (.int k), .val (.int n), .val (.int d), .val (.int u), .val (.int w), .val (.ref sE), .val (.long (((d &&& (2147483647 : Int32)).toInt64) + (1 : Int64))), .second, .val (.long (n.toInt64)), .second, .unset, .unset, .unset, .unset, .unset, .unset] [(.ref b32)]))
    refine w_astore X #[.val (.int k), .val (.int n), .val (.int d), .val (.int u), .val (.int w), .val (.ref sE), .val (.long (((d &&& (2147483647 : Int32)).toInt64) + (1 : Int64))), .second, .val (.long (n.toInt64)), .second, .val (.ref b32), .unset, .unset, .unset, .unset, .unset] d_32 (rfl) rfl ?_
    refine w_new X d_34 (wd_8 hw) (wd_9 hw) (wd_10 hw) (by decide) (by decide) (fun T h34 b34 g34 gn34 X E34 A34 D34 => ?_)
    refine w_dup X d_37 rfl ?_
    refine w_lload X d_38 rfl ?_
    refine w_lconst X (1 : Int64) d_40 rfl ?_
    refine w_ladd X d_41 ?_
    refine w_iloadN X d_42 rfl ?_
    refine w_ldcI X d_43 (wd_33 hw) ?_
    refine w_iand X d_45 ?_
    refine w_i2l X d_46 ?_
    refine w_ladd X d_47 ?_
    refine w_lload X d_48 rfl ?_
    refine w_callI X d_50 rfl (wd_11 hw) (wd_12 hw) (wd_10 hw) (wd_13 hw) (by decide) (argsL := [(.long (((n.toInt64) + (1 : Int64)) + ((u &&& (65535 : Int32)).toInt64))), (.long (((d &&& (2147483647 : Int32)).toInt64) + (1 : Int64)))]) (S := [(.ref b34)]) (m_init hw (((n.toInt64) + (1 : Int64)) + ((u &&& (65535 : Int32)).toInt64)) (((d &&& (2147483647 : Int32)).toInt64) + (1 : Int64)) hden gn34 A34 (show Fld Z h34 b34 "com/example/flicker/flicker/game/Rational" "numerator" "J" (.long (0 : Int64)) from D34 (Or.inr (wd_30 hw)) (ty := .long) (by decide)) (show Fld Z h34 b34 "com/example/flicker/flicker/game/Rational" "denominator" "J" (.long (0 : Int64)) from D34 (Or.inr (wd_32 hw)) (ty := .long) (by decide))) pd_8 rfl rfl rfl (by decide) (Nat.le_of_ble_eq_true rfl) (by decide) (by decide) (fun T h35 v35 L35 X q35 => ?_)
    obtain ⟨rfl, n35, d35, g35, gp35, en35, ed35, Fn35, Fd35, Ex35, K35⟩ := q35
    show Wp p e below _ (T.setTop (mkF m 53 #[.val (.int k), .val (.int n), .val (.int d), .val (.int u), .val (.int w), .val (.ref sE), .val (.long (((d &&& (2147483647 : Int32)).toInt64) + (1 : Int64))), .second, .val (.long (n.toInt64)), .second, .val (.ref b32), .unset, .unset, .unset, .unset, .unset] [(.ref b34)]))
    refine w_astore X #[.val (.int k), .val (.int n), .val (.int d), .val (.int u), .val (.int w), .val (.ref sE), .val (.long (((d &&& (2147483647 : Int32)).toInt64) + (1 : Int64))), .second, .val (.long (n.toInt64)), .second, .val (.ref b32), .val (.ref b34), .unset, .unset, .unset, .unset] d_53 (rfl) rfl ?_
    refine w_new X d_55 (wd_8 hw) (wd_9 hw) (wd_10 hw) (by decide) (by decide) (fun T h36 b36 g36 gn36 X E36 A36 D36 => ?_)
    refine w_dup X d_58 rfl ?_
    refine w_lload X d_59 rfl ?_
    refine w_lconst X (1 : Int64) d_61 rfl ?_
    refine w_lsub X d_62 ?_
    refine w_iload X d_63 rfl ?_
    refine w_ldcI X d_65 (wd_33 hw) ?_
    refine w_iand X d_67 ?_
    refine w_i2l X d_68 ?_
    refine w_lsub X d_69 ?_
    refine w_lload X d_70 rfl ?_
    refine w_callI X d_72 rfl (wd_11 hw) (wd_12 hw) (wd_10 hw) (wd_13 hw) (by decide) (argsL := [(.long (((n.toInt64) - (1 : Int64)) - ((w &&& (65535 : Int32)).toInt64))), (.long (((d &&& (2147483647 : Int32)).toInt64) + (1 : Int64)))]) (S := [(.ref b36)]) (m_init hw (((n.toInt64) - (1 : Int64)) - ((w &&& (65535 : Int32)).toInt64)) (((d &&& (2147483647 : Int32)).toInt64) + (1 : Int64)) hden gn36 A36 (show Fld Z h36 b36 "com/example/flicker/flicker/game/Rational" "numerator" "J" (.long (0 : Int64)) from D36 (Or.inr (wd_30 hw)) (ty := .long) (by decide)) (show Fld Z h36 b36 "com/example/flicker/flicker/game/Rational" "denominator" "J" (.long (0 : Int64)) from D36 (Or.inr (wd_32 hw)) (ty := .long) (by decide))) pd_8 rfl rfl rfl (by decide) (Nat.le_of_ble_eq_true rfl) (by decide) (by decide) (fun T h37 v37 L37 X q37 => ?_)
    obtain ⟨rfl, n37, d37, g37, gp37, en37, ed37, Fn37, Fd37, Ex37, K37⟩ := q37
    show Wp p e below _ (T.setTop (mkF m 75 #[.val (.int k), .val (.int n), .val (.int d), .val (.int u), .val (.int w), .val (.ref sE), .val (.long (((d &&& (2147483647 : Int32)).toInt64) + (1 : Int64))), .second, .val (.long (n.toInt64)), .second, .val (.ref b32), .val (.ref b34), .unset, .unset, .unset, .unset] [(.ref b36)]))
    refine w_astore X #[.val (.int k), .val (.int n), .val (.int d), .val (.int u), .val (.int w), .val (.ref sE), .val (.long (((d &&& (2147483647 : Int32)).toInt64) + (1 : Int64))), .second, .val (.long (n.toInt64)), .second, .val (.ref b32), .val (.ref b34), .val (.ref b36), .unset, .unset, .unset] d_75 (rfl) rfl ?_
    refine w_aload X d_77 rfl (rfl) ?_
    refine w_callV X d_79 (wd_34 hw) (wd_35 hw) (notFace_of_selects (args := #[]) (mvT X.hZ (wd_37 hw))) (wd_37 hw) (wd_36 hw) (wd_5 hw) (wd_38 hw) (by decide) (E_sE.ext X.old.2) (argsL := []) (S := []) (m_bbsE hw S_sA E_sA O_sA S_sB E_sB O_sB S_sC E_sC O_sC S_sE E_sE O_sE) pd_9 rfl rfl rfl (by decide) (Nat.le_of_ble_eq_true rfl) (by decide) (by decide) (fun T h38 v38 L38 X q38 => ?_)
    obtain ⟨rfl, rfl⟩ := q38
    show Wp p e below _ (T.setTop (mkF m 82 #[.val (.int k), .val (.int n), .val (.int d), .val (.int u), .val (.int w), .val (.ref sE), .val (.long (((d &&& (2147483647 : Int32)).toInt64) + (1 : Int64))), .second, .val (.long (n.toInt64)), .second, .val (.ref b32), .val (.ref b34), .val (.ref b36), .unset, .unset, .unset] [(.int (0 : Int32))]))
    refine w_istore X #[.val (.int k), .val (.int n), .val (.int d), .val (.int u), .val (.int w), .val (.ref sE), .val (.long (((d &&& (2147483647 : Int32)).toInt64) + (1 : Int64))), .second, .val (.long (n.toInt64)), .second, .val (.ref b32), .val (.ref b34), .val (.ref b36), .val (.int (0 : Int32)), .unset, .unset] d_82 rfl ?_
    refine w_aload X d_84 rfl (rfl) ?_
    refine w_aload X d_86 rfl (rfl) ?_
    refine w_aload X d_88 rfl (rfl) ?_
    have f16 := ((Ex35.ext E36).keep K37)
    have f17 := ((Fn35.ext E36).keep K37 (by simp only [List.mem_cons, List.not_mem_nil, or_false]; exact (Nat.ne_of_lt (Nat.lt_of_lt_of_le (Nat.lt_of_lt_of_le A34.lt K35.1) (Nat.le_of_eq g36.symm)))))
    have f18 := ((Fd35.ext E36).keep K37 (by simp only [List.mem_cons, List.not_mem_nil, or_false]; exact (Nat.ne_of_lt (Nat.lt_of_lt_of_le (Nat.lt_of_lt_of_le A34.lt K35.1) (Nat.le_of_eq g36.symm)))))
    have f19 := ((((Fn33.ext E34).keep K35 (by simp only [List.mem_cons, List.not_mem_nil, or_false]; exact (Nat.ne_of_lt (Nat.lt_of_lt_of_le (Nat.lt_of_lt_of_le A32.lt K33.1) (Nat.le_of_eq g34.symm))))).ext E36).keep K37 (by simp only [List.mem_cons, List.not_mem_nil, or_false]; exact (Nat.ne_of_lt (Nat.lt_of_lt_of_le (Nat.lt_of_lt_of_le (Nat.lt_of_lt_of_le (Nat.lt_of_lt_of_le A32.lt K33.1) E34.1) K35.1) (Nat.le_of_eq g36.symm)))))
    have f20 := ((((Fd33.ext E34).keep K35 (by simp only [List.mem_cons, List.not_mem_nil, or_false]; exact (Nat.ne_of_lt (Nat.lt_of_lt_of_le (Nat.lt_of_lt_of_le A32.lt K33.1) (Nat.le_of_eq g34.symm))))).ext E36).keep K37 (by simp only [List.mem_cons, List.not_mem_nil, or_false]; exact (Nat.ne_of_lt (Nat.lt_of_lt_of_le (Nat.lt_of_lt_of_le (Nat.lt_of_lt_of_le (Nat.lt_of_lt_of_le A32.lt K33.1) E34.1) K35.1) (Nat.le_of_eq g36.symm)))))
    refine w_callV X d_90 (wd_40 hw) (wd_41 hw) (notFace_of_selects (args := #[]) (mvT X.hZ (wd_43 hw))) (wd_43 hw) (wd_42 hw) (wd_5 hw) (wd_44 hw) (by decide) (E_sE.ext X.old.2) (argsL := [(.ref b34), (.ref b32)]) (S := []) (m_hosE_gt hw S_sA E_sA O_sA S_sB E_sB O_sB S_sC E_sC O_sC S_sE E_sE O_sE f16 f17 f18 f19 f20 (own_cross gp33 gp35 hden en33 ed33 en35 ed35 hup)) pd_10 rfl rfl rfl (by decide) (Nat.le_of_ble_eq_true rfl) (by decide) (by decide) (fun T h39 v39 L39 X q39 => ?_)
    obtain ⟨rfl, rfl⟩ := q39
    show Wp p e below _ (T.setTop (mkF m 93 #[.val (.int k), .val (.int n), .val (.int d), .val (.int u), .val (.int w), .val (.ref sE), .val (.long (((d &&& (2147483647 : Int32)).toInt64) + (1 : Int64))), .second, .val (.long (n.toInt64)), .second, .val (.ref b32), .val (.ref b34), .val (.ref b36), .val (.int (0 : Int32)), .unset, .unset] [(.int (0 : Int32))]))
    refine w_istore X #[.val (.int k), .val (.int n), .val (.int d), .val (.int u), .val (.int w), .val (.ref sE), .val (.long (((d &&& (2147483647 : Int32)).toInt64) + (1 : Int64))), .second, .val (.long (n.toInt64)), .second, .val (.ref b32), .val (.ref b34), .val (.ref b36), .val (.int (0 : Int32)), .val (.int (0 : Int32)), .unset] d_93 rfl ?_
    refine w_aload X d_95 rfl (rfl) ?_
    refine w_aload X d_97 rfl (rfl) ?_
    refine w_aload X d_99 rfl (rfl) ?_
    refine w_callV X d_101 (wd_40 hw) (wd_41 hw) (notFace_of_selects (args := #[]) (mvT X.hZ (wd_43 hw))) (wd_43 hw) (wd_42 hw) (wd_5 hw) (wd_44 hw) (by decide) (E_sE.ext X.old.2) (argsL := [(.ref b36), (.ref b32)]) (S := []) (m_hosE_lt hw S_sA E_sA O_sA S_sB E_sB O_sB S_sC E_sC O_sC S_sE E_sE O_sE Ex37 Fn37 Fd37 f19 f20 (own_cross gp37 gp33 hden en37 ed37 en33 ed33 hdn)) pd_10 rfl rfl rfl (by decide) (Nat.le_of_ble_eq_true rfl) (by decide) (by decide) (fun T h40 v40 L40 X q40 => ?_)
    obtain ⟨rfl, rfl⟩ := q40
    show Wp p e below _ (T.setTop (mkF m 104 #[.val (.int k), .val (.int n), .val (.int d), .val (.int u), .val (.int w), .val (.ref sE), .val (.long (((d &&& (2147483647 : Int32)).toInt64) + (1 : Int64))), .second, .val (.long (n.toInt64)), .second, .val (.ref b32), .val (.ref b34), .val (.ref b36), .val (.int (0 : Int32)), .val (.int (0 : Int32)), .unset] [(.int (1 : Int32))]))
    refine w_istore X #[.val (.int k), .val (.int n), .val (.int d), .val (.int u), .val (.int w), .val (.ref sE), .val (.long (((d &&& (2147483647 : Int32)).toInt64) + (1 : Int64))), .second, .val (.long (n.toInt64)), .second, .val (.ref b32), .val (.ref b34), .val (.ref b36), .val (.int (0 : Int32)), .val (.int (0 : Int32)), .val (.int (1 : Int32))] d_104 rfl ?_
    refine w_iload X d_106 rfl ?_
    refine w_iload X d_108 rfl ?_
    refine w_icmpne X d_110 (fun hc => absurd rfl hc) (fun _ => ?_)
    refine w_iload X d_113 rfl ?_
    refine w_iload X d_115 rfl ?_
    refine w_ifne X d_117 (fun _ => ?_) (fun hc => absurd hc (by decide))
    refine w_iconst X (0 : Int32) d_124 rfl ?_
    refine w_icmpne X d_125 (fun hc => absurd rfl hc) (fun _ => ?_)
    refine w_iconst X (1 : Int32) d_128 rfl ?_
    refine w_goto X d_129 ?_
    exact w_ret_boolean X (1 : Int32) (by decide) d_133 rfl (by decide) (by decide)
set_option maxRecDepth 65536 in
set_option maxHeartbeats 40000000 in
theorem comes_1 {Post : Tables → Env → Array Value → State → Outcome → State → Prop} (hpost : ∀ tb e args s v u, (limb_1_1.after args s (.returned v) u = true ∧ limb_1_2.after args s (.returned v) u = true ∧ True) → FrameEnd s (.returned v) u (Jvm.fieldLocs frame_1_writes args s ++ Jvm.arrayLocs frame_1_arrays args s ++ Jvm.staticLocs frame_1_statics s) 16 128 → Post tb e args s (.returned v) u) :
    ArmFor flags0 classFile x code maxLocals ret World_1 tables_1 room_1 Calls_1 rest_1 Pre_1 Post := by
  intro l hfl _ _ p e ha hc hk s m args below hf hA hF happ hP
  obtain ⟨hcalls, hrest, hpre⟩ := hP
  obtain ⟨-, -, -, hnamed, -, -, -, hat⟩ := (Spec.applies_iff hf).mp happ
  obtain ⟨hg, hn⟩ := and_e (Cond.before_iff.mp (show (Jvm.Cond.and given_1 narrow_1).before args s = true from hpre))
  obtain ⟨hcount, hg1⟩ := and_e hg
  obtain ⟨ha0, hg2⟩ := and_e hg1
  obtain ⟨ha1, hg3⟩ := and_e hg2
  obtain ⟨ha2, hg4⟩ := and_e hg3
  obtain ⟨ha3, hg5⟩ := and_e hg4
  have ha4 := hg5
  obtain ⟨w0, w1, w2, w3, w4, rfl⟩ : ∃ w0 w1 w2 w3 w4 : Value, args = #[w0, w1, w2, w3, w4] := by
    have hs : args.size = 5 := by simpa [Cond.value, given_1] using hcount
    obtain ⟨L⟩ := args
    match L, hs with
    | [w0, w1, w2, w3, w4], _ => exact ⟨w0, w1, w2, w3, w4, rfl⟩
  have hw := fun d (hd : d ∈ tables_1) => atoms_spec (ws := Jvm.Cond.code x code maxLocals ret :: tables_1) hat d (List.mem_cons_of_mem _ hd)
  have hfit : Fit s := fun {y c} hc i hi => by
    obtain ⟨ha, rfl⟩ := Array.getElem?_eq_some_iff.mp hc
    have q := List.all_eq_true.mp ((Array.all_eq_true_iff_forall_mem.mp hF) _ (Array.getElem_mem ha)) i (List.mem_range.mpr hi)
    simpa [Array.getElem?_eq_getElem hi] using q
  obtain ⟨i0, ei0⟩ := is_v ha0
  obtain rfl : w0 = (.int i0) := Option.some.inj ei0
  obtain ⟨i1, ei1⟩ := is_v ha1
  obtain rfl : w1 = (.int i1) := Option.some.inj ei1
  obtain ⟨i2, ei2⟩ := is_v ha2
  obtain rfl : w2 = (.int i2) := Option.some.inj ei2
  obtain ⟨i3, ei3⟩ := is_v ha3
  obtain rfl : w3 = (.int i3) := Option.some.inj ei3
  obtain ⟨i4, ei4⟩ := is_v ha4
  obtain rfl : w4 = (.int i4) := Option.some.inj ei4
  obtain ⟨n0, hn0⟩ := and_e hn
  obtain ⟨o0, hm0⟩ := and_e hn0
  obtain ⟨sA, e_sA⟩ := exa_v n0
  have S_sA : Sta s s.heap "com/example/flicker/flicker/game/Relation" "AT_LEAST" "Lcom/example/flicker/flicker/game/Relation;" (.ref sA) := Sta.start e_sA (Or.inr ⟨(wd_5 hw), (wd_6 hw)⟩)
  have E_sA := Exa.start e_sA n0
  have O_sA : Fld s s.heap sA "java/lang/Enum" "ordinal" "I" (.int (0 : Int32)) := own_ordv (fld_at e_sA) o0
  obtain ⟨n1, hn1⟩ := and_e hm0
  obtain ⟨o1, hm1⟩ := and_e hn1
  obtain ⟨sE, e_sE⟩ := exa_v n1
  have S_sE : Sta s s.heap "com/example/flicker/flicker/game/Relation" "BELOW" "Lcom/example/flicker/flicker/game/Relation;" (.ref sE) := Sta.start e_sE (Or.inr ⟨(wd_5 hw), (wd_76 hw)⟩)
  have E_sE := Exa.start e_sE n1
  have O_sE : Fld s s.heap sE "java/lang/Enum" "ordinal" "I" (.int (3 : Int32)) := own_ordv (fld_at e_sE) o1
  obtain ⟨n2, hn2⟩ := and_e hm1
  obtain ⟨o2, hm2⟩ := and_e hn2
  obtain ⟨sB, e_sB⟩ := exa_v n2
  have S_sB : Sta s s.heap "com/example/flicker/flicker/game/Relation" "ABOVE" "Lcom/example/flicker/flicker/game/Relation;" (.ref sB) := Sta.start e_sB (Or.inr ⟨(wd_5 hw), (wd_78 hw)⟩)
  have E_sB := Exa.start e_sB n2
  have O_sB : Fld s s.heap sB "java/lang/Enum" "ordinal" "I" (.int (1 : Int32)) := own_ordv (fld_at e_sB) o2
  obtain ⟨n3, hn3⟩ := and_e hm2
  have o3 := hn3
  obtain ⟨sC, e_sC⟩ := exa_v n3
  have S_sC : Sta s s.heap "com/example/flicker/flicker/game/Relation" "AT_MOST" "Lcom/example/flicker/flicker/game/Relation;" (.ref sC) := Sta.start e_sC (Or.inr ⟨(wd_5 hw), (wd_80 hw)⟩)
  have E_sC := Exa.start e_sC n3
  have O_sC : Fld s s.heap sC "java/lang/Enum" "ordinal" "I" (.int (2 : Int32)) := own_ordv (fld_at e_sC) o3
  obtain ⟨n, o, h1, h2, h3, v, L, rfl, ⟨N, -, -, rfl⟩, hq⟩ := m_law (l := l) (Z := s) (n0 := s.heap.size) hw i0 i1 i2 i3 i4 S_sA E_sA O_sA S_sB E_sB O_sB S_sC E_sC O_sC S_sE E_sE O_sE (own_den i2) (own_up i1 i3) (own_dn i1 i4) (Old.start s) p e ha hc hk s m _ below hf ((Spec.applies_iff_loose hf).mp happ).1 ⟨rfl, State.Warmed39.refl s, rfl⟩ trivial
  refine ⟨n, _, h1, h2, h3, hpost _ _ _ _ _ _ ⟨Cond.after_iff.mpr rfl, Cond.after_iff.mpr (eq_i res_at (Term.int_eval (1)) rfl), trivial⟩ ⟨hq.1, hq.2.1, (hq.2.2.sift fun y hy => Or.inr (N y hy)).mono (by decide) (by decide)⟩⟩
theorem main_1_1 : Claimed_1_1 := comes_1 fun _ _ _ _ _ _ h hF => ⟨h.1, hF⟩
theorem main_1_2 : Claimed_1_2 := comes_1 fun _ _ _ _ _ _ h hF => ⟨h.2.1, hF⟩
end Jvm.Pilot.@@N@@
namespace Jvm.Pilot.@@N@@
open Jvm Jvm.ClassFile Sem Op Lib Jvm.Free Jvm.Stand Jvm.Pilot.@@N@@.Jvm.D
/-! MADE BY PROGRAM (witnessworld.py) out of the Statement's table words and the real class files: 18 classes; the members and pool entries that the words name. The judged class is class 1, her method 1. -/
namespace start1
open Jvm.ClassFile
def u (s : String) : CpInfo := .utf8 (stringToUtf16 s)
/-- a pool by its gaps: so many unusable entries, then the entry; so many at the end -/
def gap : Nat → List CpInfo → List CpInfo
  | 0, r => r
  | n + 1, r => .unusable :: gap n r
def poolList (es : List (Nat × CpInfo)) (last : Nat) : List CpInfo := es.foldr (fun e r => gap e.1 (e.2 :: r)) (gap last [])
def pool (es : List (Nat × CpInfo)) (last : Nat) : Array CpInfo := ⟨poolList es last⟩
def fileOf (pool : Array CpInfo) (this : Nat) (attrs : Array Attribute := #[]) (ms : Array MethodInfo := #[]) (fl : Nat := 33) (sup : Nat := 0) (ifs : Array Nat := #[]) (fds : Array FieldInfo := #[]) : ClassFile where
  minorVersion := 0
  majorVersion := 65
  constantPool := pool
  accessFlags := fl
  thisClass := this
  superClass := sup
  interfaces := ifs
  fields := fds
  methods := ms
  attributes := attrs
def plain (name : String) (sup : Option ClassId) : Class where
  name := name
  kind := .ordinary
  loader := none
  accessFlags := 33
  super := sup
  interfaces := #[]
  cf := none
  fields := #[]
  methods := #[]
  instanceTypes := #[]
  staticTypes := #[]
  resolved := #[]
  callSites := []
  init := .initialized
  statics := none
  mirror := none

def pool0 : Array CpInfo := pool [(5, u "<init>"), (0, u "()V"), (1, .class_ 10), (1, u "java/lang/Object")] 113

def k0c0 : Code := { maxStack := 0, maxLocals := 1, code := object_method_1_code, exceptionTable := #[], attributes := #[] }
def k0m0 : Method := { name := "<init>", desc := "()V", sig := { parameters := [], returnType := none }, accessFlags := 1, code := some k0c0 }
/-- java/lang/Object -/
def k0 : Class := { plain "java/lang/Object" none with
  accessFlags := 33
  interfaces := #[]
  cf := some (fileOf pool0 8 #[] #[{ accessFlags := 1, nameIndex := 5, descriptorIndex := 6, attributes := #[] }] 33 0 #[] #[])
  fields := #[]
  methods := #[k0m0]
  instanceTypes := #[]
  staticTypes := #[]
  resolved := Array.replicate 124 none
  statics := none }

def pool1 : Array CpInfo := pool [(2, .class_ 4), (1, u "java/lang/Object"), (0, u "<init>"), (0, u "()V"), (0, .methodref 8 9), (0, .class_ 10), (0, .nameAndType 11 12), (0, u "com/example/flicker/flicker/game/RelationBoundsBelowPinLaw"), (0, u "pick"), (0, u "(I)Lcom/example/flicker/flicker/game/Relation;"), (0, .integer 2147483647), (0, .class_ 15), (0, u "com/example/flicker/flicker/game/Rational"), (0, .methodref 14 17), (0, .nameAndType 5 18), (0, u "(JJ)V"), (0, .integer 65535), (0, .methodref 21 22), (0, .class_ 23), (0, .nameAndType 24 25), (0, u "com/example/flicker/flicker/game/Relation"), (0, u "boundsBelow"), (0, u "()Z"), (0, .methodref 21 27), (0, .nameAndType 28 29), (0, u "holds"), (0, u "(Lcom/example/flicker/flicker/game/Rational;Lcom/example/flicker/flicker/game/Rational;)Z"), (0, .fieldref 21 31), (0, .nameAndType 32 33), (0, u "AT_LEAST"), (0, u "Lcom/example/flicker/flicker/game/Relation;"), (0, .fieldref 21 35), (0, .nameAndType 36 33), (0, u "ABOVE"), (0, .fieldref 21 38), (0, .nameAndType 39 33), (0, u "AT_MOST"), (0, .fieldref 21 41), (0, .nameAndType 42 33), (0, u "BELOW"), (2, u "law"), (0, u "(IIIII)Z")] 3

def k1m0 : Method := { name := "<init>", desc := "()V", sig := { parameters := [], returnType := none }, accessFlags := 1, code := none }
def k1c1 : Code := { maxStack := 6, maxLocals := 16, code := code, exceptionTable := #[], attributes := #[] }
def k1m1 : Method := { name := "law", desc := "(IIIII)Z", sig := { parameters := [.int, .int, .int, .int, .int], returnType := some .boolean }, accessFlags := 9, code := some k1c1 }
def k1c2 : Code := { maxStack := 2, maxLocals := 1, code := method_3_code, exceptionTable := #[], attributes := #[] }
def k1m2 : Method := { name := "pick", desc := "(I)Lcom/example/flicker/flicker/game/Relation;", sig := { parameters := [.int], returnType := some (.object "com/example/flicker/flicker/game/Relation") }, accessFlags := 10, code := some k1c2 }
/-- com/example/flicker/flicker/game/RelationBoundsBelowPinLaw -/
def k1 : Class := { plain "com/example/flicker/flicker/game/RelationBoundsBelowPinLaw" (some 0) with
  accessFlags := 49
  interfaces := #[]
  cf := some (fileOf pool1 8 #[] #[{ accessFlags := 1, nameIndex := 5, descriptorIndex := 6, attributes := #[] }, { accessFlags := 9, nameIndex := 45, descriptorIndex := 46, attributes := #[] }, { accessFlags := 10, nameIndex := 11, descriptorIndex := 12, attributes := #[] }] 49 2 #[] #[])
  fields := #[]
  methods := #[k1m0, k1m1, k1m2]
  instanceTypes := #[]
  staticTypes := #[]
  resolved := Array.replicate 50 none
  statics := none }

def pool2 : Array CpInfo := pool [(1, .class_ 2), (0, u "java/lang/constant/Constable"), (0, .class_ 4), (0, u "java/lang/Object")] 6

/-- java/lang/constant/Constable -/
def k2 : Class := { plain "java/lang/constant/Constable" (some 0) with
  accessFlags := 1537
  interfaces := #[]
  cf := some (fileOf pool2 1 #[] #[] 1537 3 #[] #[])
  fields := #[]
  methods := #[]
  instanceTypes := #[]
  staticTypes := #[]
  resolved := Array.replicate 11 none
  statics := none }

def pool3 : Array CpInfo := pool [(1, .class_ 2), (0, u "java/lang/Comparable"), (0, .class_ 4), (0, u "java/lang/Object")] 7

/-- java/lang/Comparable -/
def k3 : Class := { plain "java/lang/Comparable" (some 0) with
  accessFlags := 1537
  interfaces := #[]
  cf := some (fileOf pool3 1 #[] #[] 1537 3 #[] #[])
  fields := #[]
  methods := #[]
  instanceTypes := #[]
  staticTypes := #[]
  resolved := Array.replicate 12 none
  statics := none }

def pool4 : Array CpInfo := pool [(1, .class_ 2), (0, u "java/io/Serializable"), (0, .class_ 4), (0, u "java/lang/Object")] 2

/-- java/io/Serializable -/
def k4 : Class := { plain "java/io/Serializable" (some 0) with
  accessFlags := 1537
  interfaces := #[]
  cf := some (fileOf pool4 1 #[] #[] 1537 3 #[] #[])
  fields := #[]
  methods := #[]
  instanceTypes := #[]
  staticTypes := #[]
  resolved := Array.replicate 7 none
  statics := none }

def pool5 : Array CpInfo := pool [(2, .class_ 4), (1, u "java/lang/Enum"), (0, u "name"), (0, u "Ljava/lang/String;"), (0, .fieldref 2 8), (0, .nameAndType 9 10), (0, u "ordinal"), (0, u "I"), (1, .class_ 14), (1, u "java/lang/Object"), (4, u "hash"), (86, .class_ 108), (1, u "java/lang/Enum$EnumDesc"), (2, .class_ 112), (0, u "java/lang/constant/Constable"), (0, .class_ 114), (0, u "java/lang/Comparable"), (0, .class_ 116), (0, u "java/io/Serializable"), (9, u "()I")] 77

def k5c0 : Code := { maxStack := 1, maxLocals := 1, code := jdk_37_method_2_code, exceptionTable := #[], attributes := #[] }
def k5m0 : Method := { name := "ordinal", desc := "()I", sig := { parameters := [], returnType := some .int }, accessFlags := 17, code := some k5c0 }
/-- java/lang/Enum -/
def k5 : Class := { plain "java/lang/Enum" (some 0) with
  accessFlags := 1057
  interfaces := #[2, 3, 4]
  cf := some (fileOf pool5 2 #[.nestMembers #[106]] #[{ accessFlags := 17, nameIndex := 9, descriptorIndex := 126, attributes := #[] }] 1057 12 #[111, 113, 115] #[{ accessFlags := 18, nameIndex := 5, descriptorIndex := 6, attributes := #[] }, { accessFlags := 18, nameIndex := 9, descriptorIndex := 10, attributes := #[] }, { accessFlags := 2, nameIndex := 19, descriptorIndex := 10, attributes := #[] }])
  fields := #[{ name := "name", type := (.object "java/lang/String"), accessFlags := 18, slot := 0, constantValue := 0 }, { name := "ordinal", type := .int, accessFlags := 18, slot := 1, constantValue := 0 }, { name := "hash", type := .int, accessFlags := 2, slot := 2, constantValue := 0 }]
  methods := #[k5m0]
  instanceTypes := #[(.object "java/lang/String"), .int, .int]
  staticTypes := #[]
  resolved := Array.replicate 204 none
  statics := none }

def pool6 : Array CpInfo := pool [(1, .class_ 2), (0, u "com/example/flicker/flicker/game/Relation"), (0, .fieldref 1 4), (0, .nameAndType 5 6), (0, u "AT_LEAST"), (0, u "Lcom/example/flicker/flicker/game/Relation;"), (0, .fieldref 1 8), (0, .nameAndType 9 6), (0, u "ABOVE"), (2, u "AT_MOST"), (2, u "BELOW"), (2, u "$VALUES"), (0, u "[Lcom/example/flicker/flicker/game/Relation;"), (6, .class_ 28), (1, u "java/lang/Enum"), (8, u "symbol"), (0, u "Ljava/lang/String;"), (0, .methodref 40 41), (0, .class_ 42), (0, .nameAndType 43 44), (0, u "com/example/flicker/flicker/game/Rational"), (0, u "compareTo"), (0, u "(Lcom/example/flicker/flicker/game/Rational;)I"), (0, .methodref 1 46), (0, .nameAndType 47 48), (0, u "ordinal"), (0, u "()I"), (32, u "boundsBelow"), (0, u "()Z"), (1, u "holds"), (0, u "(Lcom/example/flicker/flicker/game/Rational;Lcom/example/flicker/flicker/game/Rational;)Z")] 5

def k6c0 : Code := { maxStack := 2, maxLocals := 1, code := prog_18_method_5_code, exceptionTable := #[], attributes := #[] }
def k6m0 : Method := { name := "boundsBelow", desc := "()Z", sig := { parameters := [], returnType := some .boolean }, accessFlags := 1, code := some k6c0 }
def k6c1 : Code := { maxStack := 4, maxLocals := 5, code := prog_18_method_6_code, exceptionTable := #[], attributes := #[] }
def k6m1 : Method := { name := "holds", desc := "(Lcom/example/flicker/flicker/game/Rational;Lcom/example/flicker/flicker/game/Rational;)Z", sig := { parameters := [(.object "com/example/flicker/flicker/game/Rational"), (.object "com/example/flicker/flicker/game/Rational")], returnType := some .boolean }, accessFlags := 1, code := some k6c1 }
/-- com/example/flicker/flicker/game/Relation -/
def k6 : Class := { plain "com/example/flicker/flicker/game/Relation" (some 5) with
  accessFlags := 16433
  interfaces := #[]
  cf := some (fileOf pool6 1 #[] #[{ accessFlags := 1, nameIndex := 81, descriptorIndex := 82, attributes := #[] }, { accessFlags := 1, nameIndex := 84, descriptorIndex := 85, attributes := #[] }] 16433 26 #[] #[{ accessFlags := 16409, nameIndex := 5, descriptorIndex := 6, attributes := #[] }, { accessFlags := 16409, nameIndex := 9, descriptorIndex := 6, attributes := #[] }, { accessFlags := 16409, nameIndex := 12, descriptorIndex := 6, attributes := #[] }, { accessFlags := 16409, nameIndex := 15, descriptorIndex := 6, attributes := #[] }, { accessFlags := 18, nameIndex := 37, descriptorIndex := 38, attributes := #[] }, { accessFlags := 4122, nameIndex := 18, descriptorIndex := 19, attributes := #[] }])
  fields := #[{ name := "AT_LEAST", type := (.object "com/example/flicker/flicker/game/Relation"), accessFlags := 16409, slot := 0, constantValue := 0 }, { name := "ABOVE", type := (.object "com/example/flicker/flicker/game/Relation"), accessFlags := 16409, slot := 1, constantValue := 0 }, { name := "AT_MOST", type := (.object "com/example/flicker/flicker/game/Relation"), accessFlags := 16409, slot := 2, constantValue := 0 }, { name := "BELOW", type := (.object "com/example/flicker/flicker/game/Relation"), accessFlags := 16409, slot := 3, constantValue := 0 }, { name := "symbol", type := (.object "java/lang/String"), accessFlags := 18, slot := 3, constantValue := 0 }, { name := "$VALUES", type := (.array (.object "com/example/flicker/flicker/game/Relation")), accessFlags := 4122, slot := 4, constantValue := 0 }]
  methods := #[k6m0, k6m1]
  instanceTypes := #[(.object "java/lang/String"), .int, .int, (.object "java/lang/String")]
  staticTypes := #[(.object "com/example/flicker/flicker/game/Relation"), (.object "com/example/flicker/flicker/game/Relation"), (.object "com/example/flicker/flicker/game/Relation"), (.object "com/example/flicker/flicker/game/Relation"), (.array (.object "com/example/flicker/flicker/game/Relation"))]
  resolved := Array.replicate 91 none
  statics := some 0 }

def pool7 : Array CpInfo := pool [(1, .methodref 2 3), (0, .class_ 4), (0, .nameAndType 5 6), (0, u "java/lang/Object"), (0, u "<init>"), (0, u "()V"), (0, .class_ 8), (0, u "java/lang/Record")] 13

def k7c0 : Code := { maxStack := 1, maxLocals := 1, code := jdk_30_method_1_code, exceptionTable := #[], attributes := #[] }
def k7m0 : Method := { name := "<init>", desc := "()V", sig := { parameters := [], returnType := none }, accessFlags := 4, code := some k7c0 }
/-- java/lang/Record -/
def k7 : Class := { plain "java/lang/Record" (some 0) with
  accessFlags := 1057
  interfaces := #[]
  cf := some (fileOf pool7 7 #[] #[{ accessFlags := 4, nameIndex := 5, descriptorIndex := 6, attributes := #[] }] 1057 2 #[] #[])
  fields := #[]
  methods := #[k7m0]
  instanceTypes := #[]
  staticTypes := #[]
  resolved := Array.replicate 22 none
  statics := none }

def pool8 : Array CpInfo := pool [(1, .methodref 2 3), (0, .class_ 4), (0, .nameAndType 5 6), (0, u "java/lang/Record"), (0, u "<init>"), (0, u "()V"), (9, .methodref 17 18), (0, .class_ 19), (0, .nameAndType 20 21), (0, u "com/example/flicker/flicker/game/Rational"), (0, u "gcd"), (0, u "(JJ)J"), (0, .fieldref 17 23), (0, .nameAndType 24 25), (0, u "numerator"), (0, u "J"), (0, .fieldref 17 27), (0, .nameAndType 28 25), (0, u "denominator"), (17, u "INTEGER"), (0, u "Ljava/util/regex/Pattern;"), (14, u "NATURAL"), (13, u "(JJ)V"), (0, .methodref 17 78), (0, .nameAndType 79 80), (0, u "compareProducts"), (0, u "(JJJJ)I"), (1, .class_ 84), (1, u "java/lang/Long"), (8, .methodref 94 95), (0, .class_ 96), (0, .nameAndType 97 21), (0, u "java/lang/Math"), (0, u "multiplyHigh"), (0, .methodref 82 99), (0, .nameAndType 100 101), (0, u "compare"), (0, u "(JJ)I"), (0, .methodref 82 103), (0, .nameAndType 104 101), (0, u "compareUnsigned"), (0, .methodref 94 106), (0, .nameAndType 107 108), (0, u "abs"), (0, u "(J)J"), (2, u "compareTo"), (0, u "(Lcom/example/flicker/flicker/game/Rational;)I"), (15, .class_ 129), (0, u "java/lang/Comparable")] 51

def k8c0 : Code := { maxStack := 4, maxLocals := 7, code := prog_17_method_1_code, exceptionTable := #[], attributes := #[] }
def k8m0 : Method := { name := "<init>", desc := "(JJ)V", sig := { parameters := [.long, .long], returnType := none }, accessFlags := 1, code := some k8c0 }
def k8c1 : Code := { maxStack := 8, maxLocals := 2, code := prog_17_method_3_code, exceptionTable := #[], attributes := #[] }
def k8m1 : Method := { name := "compareTo", desc := "(Lcom/example/flicker/flicker/game/Rational;)I", sig := { parameters := [(.object "com/example/flicker/flicker/game/Rational")], returnType := some .int }, accessFlags := 1, code := some k8c1 }
def k8c2 : Code := { maxStack := 6, maxLocals := 9, code := prog_17_method_6_code, exceptionTable := #[], attributes := #[] }
def k8m2 : Method := { name := "compareProducts", desc := "(JJJJ)I", sig := { parameters := [.long, .long, .long, .long], returnType := some .int }, accessFlags := 10, code := some k8c2 }
def k8c3 : Code := { maxStack := 4, maxLocals := 10, code := prog_17_method_7_code, exceptionTable := #[], attributes := #[] }
def k8m3 : Method := { name := "gcd", desc := "(JJ)J", sig := { parameters := [.long, .long], returnType := some .long }, accessFlags := 10, code := some k8c3 }
/-- com/example/flicker/flicker/game/Rational -/
def k8 : Class := { plain "com/example/flicker/flicker/game/Rational" (some 7) with
  accessFlags := 49
  interfaces := #[3]
  cf := some (fileOf pool8 17 #[] #[{ accessFlags := 1, nameIndex := 5, descriptorIndex := 76, attributes := #[] }, { accessFlags := 1, nameIndex := 111, descriptorIndex := 112, attributes := #[] }, { accessFlags := 10, nameIndex := 79, descriptorIndex := 80, attributes := #[] }, { accessFlags := 10, nameIndex := 20, descriptorIndex := 21, attributes := #[] }] 49 2 #[128] #[{ accessFlags := 18, nameIndex := 24, descriptorIndex := 25, attributes := #[] }, { accessFlags := 18, nameIndex := 28, descriptorIndex := 25, attributes := #[] }, { accessFlags := 26, nameIndex := 46, descriptorIndex := 47, attributes := #[] }, { accessFlags := 26, nameIndex := 62, descriptorIndex := 47, attributes := #[] }])
  fields := #[{ name := "numerator", type := .long, accessFlags := 18, slot := 0, constantValue := 0 }, { name := "denominator", type := .long, accessFlags := 18, slot := 1, constantValue := 0 }, { name := "INTEGER", type := (.object "java/util/regex/Pattern"), accessFlags := 26, slot := 0, constantValue := 0 }, { name := "NATURAL", type := (.object "java/util/regex/Pattern"), accessFlags := 26, slot := 1, constantValue := 0 }]
  methods := #[k8m0, k8m1, k8m2, k8m3]
  instanceTypes := #[.long, .long]
  staticTypes := #[(.object "java/util/regex/Pattern"), (.object "java/util/regex/Pattern")]
  resolved := Array.replicate 181 none
  statics := none }

def pool9 : Array CpInfo := pool [(1, .class_ 2), (0, u "java/lang/Math"), (1, .class_ 6), (1, u "java/lang/Object"), (0, u "<init>"), (0, u "()V"), (89, .class_ 100), (1, u "java/lang/Math$RandomNumberGeneratorHolder"), (20, u "(JJ)J"), (2, u "abs"), (0, u "(J)J"), (12, .long 4294967295), (3, u "multiplyHigh"), (29, u "negativeZeroFloatBits"), (0, u "J"), (2, u "negativeZeroDoubleBits"), (68, u "$assertionsDisabled"), (0, u "Z"), (91, u "twoToTheDoubleScaleDown"), (0, u "D"), (4, u "twoToTheDoubleScaleUp"), (9, u "E"), (3, u "PI"), (2, u "TAU"), (2, u "DEGREES_TO_RADIANS"), (0, u "RADIANS_TO_DEGREES")] 94

def k9m0 : Method := { name := "<init>", desc := "()V", sig := { parameters := [], returnType := none }, accessFlags := 2, code := none }
def k9c1 : Code := { maxStack := 6, maxLocals := 20, code := jdk_29_method_45_code, exceptionTable := #[], attributes := #[] }
def k9m1 : Method := { name := "multiplyHigh", desc := "(JJ)J", sig := { parameters := [.long, .long], returnType := some .long }, accessFlags := 9, code := some k9c1 }
def k9c2 : Code := { maxStack := 4, maxLocals := 2, code := jdk_29_method_61_code, exceptionTable := #[], attributes := #[] }
def k9m2 : Method := { name := "abs", desc := "(J)J", sig := { parameters := [.long], returnType := some .long }, accessFlags := 9, code := some k9c2 }
/-- java/lang/Math -/
def k9 : Class := { plain "java/lang/Math" (some 0) with
  accessFlags := 49
  interfaces := #[]
  cf := some (fileOf pool9 1 #[.nestMembers #[98]] #[{ accessFlags := 2, nameIndex := 7, descriptorIndex := 8, attributes := #[] }, { accessFlags := 9, nameIndex := 142, descriptorIndex := 121, attributes := #[] }, { accessFlags := 9, nameIndex := 124, descriptorIndex := 125, attributes := #[] }] 49 4 #[] #[{ accessFlags := 25, nameIndex := 354, descriptorIndex := 339, attributes := #[] }, { accessFlags := 25, nameIndex := 358, descriptorIndex := 339, attributes := #[] }, { accessFlags := 25, nameIndex := 361, descriptorIndex := 339, attributes := #[] }, { accessFlags := 26, nameIndex := 364, descriptorIndex := 339, attributes := #[] }, { accessFlags := 26, nameIndex := 365, descriptorIndex := 339, attributes := #[] }, { accessFlags := 26, nameIndex := 172, descriptorIndex := 173, attributes := #[] }, { accessFlags := 26, nameIndex := 176, descriptorIndex := 173, attributes := #[] }, { accessFlags := 8, nameIndex := 344, descriptorIndex := 339, attributes := #[] }, { accessFlags := 8, nameIndex := 338, descriptorIndex := 339, attributes := #[] }, { accessFlags := 4120, nameIndex := 245, descriptorIndex := 246, attributes := #[] }])
  fields := #[{ name := "E", type := .double, accessFlags := 25, slot := 0, constantValue := 0 }, { name := "PI", type := .double, accessFlags := 25, slot := 1, constantValue := 0 }, { name := "TAU", type := .double, accessFlags := 25, slot := 2, constantValue := 0 }, { name := "DEGREES_TO_RADIANS", type := .double, accessFlags := 26, slot := 3, constantValue := 0 }, { name := "RADIANS_TO_DEGREES", type := .double, accessFlags := 26, slot := 4, constantValue := 0 }, { name := "negativeZeroFloatBits", type := .long, accessFlags := 26, slot := 5, constantValue := 0 }, { name := "negativeZeroDoubleBits", type := .long, accessFlags := 26, slot := 6, constantValue := 0 }, { name := "twoToTheDoubleScaleUp", type := .double, accessFlags := 8, slot := 7, constantValue := 0 }, { name := "twoToTheDoubleScaleDown", type := .double, accessFlags := 8, slot := 8, constantValue := 0 }, { name := "$assertionsDisabled", type := .boolean, accessFlags := 4120, slot := 9, constantValue := 0 }]
  methods := #[k9m0, k9m1, k9m2]
  instanceTypes := #[]
  staticTypes := #[.double, .double, .double, .double, .double, .long, .long, .double, .double, .boolean]
  resolved := Array.replicate 460 none
  statics := none }

def pool10 : Array CpInfo := pool [(2, .class_ 4), (1, u "java/lang/Object"), (0, u "<init>"), (0, u "()V"), (1, .class_ 10), (1, u "java/lang/Number"), (2, .class_ 14), (0, u "java/io/Serializable"), (0, u "serialVersionUID"), (0, u "J")] 20

def k10m0 : Method := { name := "<init>", desc := "()V", sig := { parameters := [], returnType := none }, accessFlags := 1, code := none }
/-- java/lang/Number -/
def k10 : Class := { plain "java/lang/Number" (some 0) with
  accessFlags := 1057
  interfaces := #[4]
  cf := some (fileOf pool10 8 #[] #[{ accessFlags := 1, nameIndex := 5, descriptorIndex := 6, attributes := #[] }] 1057 2 #[13] #[{ accessFlags := 26, nameIndex := 15, descriptorIndex := 16, attributes := #[] }])
  fields := #[{ name := "serialVersionUID", type := .long, accessFlags := 26, slot := 0, constantValue := 0 }]
  methods := #[k10m0]
  instanceTypes := #[]
  staticTypes := #[.long]
  resolved := Array.replicate 37 none
  statics := none }

def pool11 : Array CpInfo := pool [(1, .class_ 2), (0, u "java/lang/constant/ConstantDesc"), (0, .class_ 4), (0, u "java/lang/Object")] 32

/-- java/lang/constant/ConstantDesc -/
def k11 : Class := { plain "java/lang/constant/ConstantDesc" (some 0) with
  accessFlags := 1537
  interfaces := #[]
  cf := some (fileOf pool11 1 #[] #[] 1537 3 #[] #[])
  fields := #[]
  methods := #[]
  instanceTypes := #[]
  staticTypes := #[]
  resolved := Array.replicate 37 none
  statics := none }

def pool12 : Array CpInfo := pool [(1, .class_ 2), (0, u "java/lang/Long"), (165, .long 9223372036854775808), (66, .class_ 237), (1, u "java/lang/Long$LongCache"), (33, .class_ 272), (0, u "java/lang/Number"), (2, u "value"), (0, u "J"), (25, .methodref 1 303), (0, .nameAndType 304 305), (0, u "compare"), (0, u "(JJ)I"), (55, u "TYPE"), (0, u "Ljava/lang/Class;"), (0, .class_ 364), (0, u "java/lang/Comparable"), (0, .class_ 366), (0, u "java/lang/constant/Constable"), (0, .class_ 368), (0, u "java/lang/constant/ConstantDesc"), (0, u "MIN_VALUE"), (1, u "MAX_VALUE"), (4, u "SIZE"), (0, u "I"), (1, u "BYTES"), (1, u "serialVersionUID"), (87, u "compareUnsigned")] 54

def k12c0 : Code := { maxStack := 4, maxLocals := 4, code := jdk_35_method_42_code, exceptionTable := #[], attributes := #[] }
def k12m0 : Method := { name := "compare", desc := "(JJ)I", sig := { parameters := [.long, .long], returnType := some .int }, accessFlags := 9, code := some k12c0 }
def k12c1 : Code := { maxStack := 6, maxLocals := 4, code := jdk_35_method_43_code, exceptionTable := #[], attributes := #[] }
def k12m1 : Method := { name := "compareUnsigned", desc := "(JJ)I", sig := { parameters := [.long, .long], returnType := some .int }, accessFlags := 9, code := some k12c1 }
/-- java/lang/Long -/
def k12 : Class := { plain "java/lang/Long" (some 10) with
  accessFlags := 49
  interfaces := #[3, 2, 11]
  cf := some (fileOf pool12 1 #[.nestMembers #[235]] #[{ accessFlags := 9, nameIndex := 304, descriptorIndex := 305, attributes := #[] }, { accessFlags := 9, nameIndex := 469, descriptorIndex := 305, attributes := #[] }] 49 271 #[363, 365, 367] #[{ accessFlags := 25, nameIndex := 369, descriptorIndex := 276, attributes := #[] }, { accessFlags := 25, nameIndex := 371, descriptorIndex := 276, attributes := #[] }, { accessFlags := 25, nameIndex := 361, descriptorIndex := 362, attributes := #[] }, { accessFlags := 18, nameIndex := 275, descriptorIndex := 276, attributes := #[] }, { accessFlags := 25, nameIndex := 376, descriptorIndex := 377, attributes := #[] }, { accessFlags := 25, nameIndex := 379, descriptorIndex := 377, attributes := #[] }, { accessFlags := 26, nameIndex := 381, descriptorIndex := 276, attributes := #[] }])
  fields := #[{ name := "MIN_VALUE", type := .long, accessFlags := 25, slot := 0, constantValue := 0 }, { name := "MAX_VALUE", type := .long, accessFlags := 25, slot := 1, constantValue := 0 }, { name := "TYPE", type := (.object "java/lang/Class"), accessFlags := 25, slot := 2, constantValue := 0 }, { name := "value", type := .long, accessFlags := 18, slot := 0, constantValue := 0 }, { name := "SIZE", type := .int, accessFlags := 25, slot := 3, constantValue := 0 }, { name := "BYTES", type := .int, accessFlags := 25, slot := 4, constantValue := 0 }, { name := "serialVersionUID", type := .long, accessFlags := 26, slot := 5, constantValue := 0 }]
  methods := #[k12m0, k12m1]
  instanceTypes := #[.long]
  staticTypes := #[.long, .long, (.object "java/lang/Class"), .int, .int, .long]
  resolved := Array.replicate 524 none
  statics := none }

def pool13 : Array CpInfo := pool [(1, u "java/lang/Cloneable"), (0, .class_ 1), (0, u "java/lang/Object"), (0, .class_ 3)] 3

/-- java/lang/Cloneable -/
def k13 : Class := { plain "java/lang/Cloneable" (some 0) with
  accessFlags := 1537
  interfaces := #[]
  cf := some (fileOf pool13 2 #[] #[] 1537 4 #[] #[])
  fields := #[]
  methods := #[]
  instanceTypes := #[]
  staticTypes := #[]
  resolved := Array.replicate 8 none
  statics := none }

/-- the primitive byte -/
def k14 : Class := { plain "byte" none with kind := .primitive 'B', accessFlags := 0x411 }
/-- [B -/
def k15 : Class := { plain "[B" (some 0) with kind := .array 14 .byte, interfaces := #[13, 4], accessFlags := 1041 }

/-- the primitive int -/
def k16 : Class := { plain "int" none with kind := .primitive 'I', accessFlags := 0x411 }
/-- [I -/
def k17 : Class := { plain "[I" (some 0) with kind := .array 16 .int, interfaces := #[13, 4], accessFlags := 1041 }

def heap : Heap := #[{ cls := 6, slots := #[.ref 1, .ref 2, .ref 3, .ref 4, .null], vm := .statics 6 },
  { cls := 6, slots := #[.null, .int 0, .int 0, .null], vm := .none },
  { cls := 6, slots := #[.null, .int 1, .int 0, .null], vm := .none },
  { cls := 6, slots := #[.null, .int 2, .int 0, .null], vm := .none },
  { cls := 6, slots := #[.null, .int 3, .int 0, .null], vm := .none }]
def classes : Array Class := #[k0, k1, k2, k3, k4, k5, k6, k7, k8, k9, k10, k11, k12, k13, k14, k15, k16, k17]
def interned : List (Array UInt16 × Addr) := []
def slotsUsed : Nat := 21
def theMethod : MethodId := ⟨1, 1⟩
def args0 : Array Value := #[.int 1, .int 5, .int 7, .int 2, .int 3]
def aboutOver (below : List Frame) : State where
  vm := { classes := classes, interned := interned.toArray }
  heap := heap
  slotsUsed := slotsUsed
  threads := #[{ frames := .invoking theMethod args0 :: below }]
def below0 : List Frame := [.native { method := ⟨0, 0⟩, args := #[] }]
def about1 : State := aboutOver below0
def p0 : Program := .bare "" "" ""
def e0 : Env := launch0.env 0 0 0
theorem w_frames : about1.frames = Frame.invoking theMethod args0 :: below0 := rfl
set_option maxRecDepth 65536 in
theorem w_args : argsFit about1.vm theMethod args0 = true := by decide +kernel
set_option maxRecDepth 65536 in
theorem w_heap : heapFits about1 = true := by decide +kernel
set_option maxRecDepth 65536 in
theorem w_runnable : about1.curStatus? = some .runnable := by decide +kernel
set_option maxRecDepth 65536 in
theorem w_alone : about1.alone = true := by decide +kernel
set_option maxRecDepth 65536 in
theorem w_named : about1.methodNamed? x = some theMethod := by decide +kernel
set_option maxRecDepth 65536 in
theorem w_hears : about1.hears theMethod below0 = true := by decide +kernel
set_option maxRecDepth 65536 in
theorem w_ripe : about1.ripe theMethod args0 below0 = true := by decide +kernel
theorem w_running : about1.status = .running := rfl
set_option maxRecDepth 65536 in
theorem w_room : about1.hasRoom e0.platform room_1 = true :=
  launch0.hasRoom_least _ room_1 (by decide +kernel) (by decide +kernel) (by decide +kernel) (by decide +kernel) (by decide +kernel) (by decide +kernel)
theorem allAtoms_all (ts : List Jvm.Cond) (a : Array Jvm.Value) (st : Jvm.State) : (allAtoms ts).before a st = ts.all (fun c => c.before a st) := by
  induction ts with
  | nil => rfl
  | cons c t ih =>
    show (Jvm.Cond.and c (allAtoms t)).before a st = _
    rw [Jvm.Cond.before_and, ih, List.all_cons]
def words1 : List Jvm.Cond := Jvm.Cond.code x code maxLocals ret :: tables_1
/-- a 'code' word, met by the world's own term for the bytes: nothing is compared byte by byte -/
theorem code_word {y : MethodName} {bytes : ByteArray} {mx : Nat} {rt : Option FieldType} {a : Array Value} {s : State} {m : MethodId} {meth : Method} {c : Code} (h1 : s.methodNamed? y = some m) (h2 : s.vm.method? m = some meth) (h3 : meth.code = some c) (h4 : c.code = bytes)
    (h5 : (c.maxLocals == mx && c.exceptionTable.isEmpty && decide (c.maxStack ≤ mostOperands) && decide (meth.sig.returnType = rt) && !meth.locks && decide (parseMethodDescriptor y.desc = some meth.sig)) = true) : (Jvm.Cond.code y bytes mx rt).before a s = true := by
  simp only [Bool.and_eq_true, beq_iff_eq, Bool.not_eq_true', decide_eq_true_eq] at h5
  obtain ⟨⟨⟨⟨⟨g1, g2⟩, g3⟩, g4⟩, g5⟩, g6⟩ := h5
  simp [Cond.before, Cond.holds, Cond.value, h1, h2, h3, h4, g1, g2, g3, g4, g5, g6]
def isCode : Jvm.Cond → Bool
  | .code _ _ _ _ => true
  | _ => false
theorem all_split {L : List Jvm.Cond} {P : Jvm.Cond → Bool} (h1 : L.all (fun c => isCode c || P c) = true) (h2 : ∀ c ∈ L.filter isCode, P c = true) : L.all P = true := by
  refine List.all_eq_true.mpr fun c hc => ?_
  have h := List.all_eq_true.mp h1 c hc
  rcases Bool.eq_false_or_eq_true (isCode c) with hi | hi
  · exact h2 c (List.mem_filter.mpr ⟨hc, hi⟩)
  · simpa [hi] using h
set_option maxRecDepth 65536 in
theorem w_c0 : (Jvm.Cond.code x code maxLocals ret).before args0 about1 = true := code_word (m := ⟨1, 1⟩) (meth := k1m1) (c := k1c1) (by decide +kernel) rfl rfl rfl (by decide +kernel)
set_option maxRecDepth 65536 in
theorem w_c1 : (Jvm.Cond.code ({ cls := "com/example/flicker/flicker/game/RelationBoundsBelowPinLaw", name := "pick", desc := "(I)Lcom/example/flicker/flicker/game/Relation;" } : Jvm.MethodName) method_3_code (1 : Nat) (Option.some (Jvm.ClassFile.FieldType.object "com/example/flicker/flicker/game/Relation"))).before args0 about1 = true := code_word (m := ⟨1, 2⟩) (meth := k1m2) (c := k1c2) (by decide +kernel) rfl rfl rfl (by decide +kernel)
set_option maxRecDepth 65536 in
theorem w_c2 : (Jvm.Cond.code ({ cls := "com/example/flicker/flicker/game/Rational", name := "<init>", desc := "(JJ)V" } : Jvm.MethodName) prog_17_method_1_code (7 : Nat) (Option.none : Option Jvm.ClassFile.FieldType)).before args0 about1 = true := code_word (m := ⟨8, 0⟩) (meth := k8m0) (c := k8c0) (by decide +kernel) rfl rfl rfl (by decide +kernel)
set_option maxRecDepth 65536 in
theorem w_c3 : (Jvm.Cond.code ({ cls := "java/lang/Record", name := "<init>", desc := "()V" } : Jvm.MethodName) jdk_30_method_1_code (1 : Nat) (Option.none : Option Jvm.ClassFile.FieldType)).before args0 about1 = true := code_word (m := ⟨7, 0⟩) (meth := k7m0) (c := k7c0) (by decide +kernel) rfl rfl rfl (by decide +kernel)
set_option maxRecDepth 65536 in
theorem w_c4 : (Jvm.Cond.code ({ cls := "java/lang/Object", name := "<init>", desc := "()V" } : Jvm.MethodName) object_method_1_code (1 : Nat) (Option.none : Option Jvm.ClassFile.FieldType)).before args0 about1 = true := code_word (m := ⟨0, 0⟩) (meth := k0m0) (c := k0c0) (by decide +kernel) rfl rfl rfl (by decide +kernel)
set_option maxRecDepth 65536 in
theorem w_c5 : (Jvm.Cond.code ({ cls := "com/example/flicker/flicker/game/Rational", name := "gcd", desc := "(JJ)J" } : Jvm.MethodName) prog_17_method_7_code (10 : Nat) (Option.some Jvm.ClassFile.FieldType.long)).before args0 about1 = true := code_word (m := ⟨8, 3⟩) (meth := k8m3) (c := k8c3) (by decide +kernel) rfl rfl rfl (by decide +kernel)
set_option maxRecDepth 65536 in
theorem w_c6 : (Jvm.Cond.code ({ cls := "java/lang/Math", name := "abs", desc := "(J)J" } : Jvm.MethodName) jdk_29_method_61_code (2 : Nat) (Option.some Jvm.ClassFile.FieldType.long)).before args0 about1 = true := code_word (m := ⟨9, 2⟩) (meth := k9m2) (c := k9c2) (by decide +kernel) rfl rfl rfl (by decide +kernel)
set_option maxRecDepth 65536 in
theorem w_c7 : (Jvm.Cond.code ({ cls := "com/example/flicker/flicker/game/Relation", name := "boundsBelow", desc := "()Z" } : Jvm.MethodName) prog_18_method_5_code (1 : Nat) (Option.some Jvm.ClassFile.FieldType.boolean)).before args0 about1 = true := code_word (m := ⟨6, 0⟩) (meth := k6m0) (c := k6c0) (by decide +kernel) rfl rfl rfl (by decide +kernel)
set_option maxRecDepth 65536 in
theorem w_c8 : (Jvm.Cond.code ({ cls := "com/example/flicker/flicker/game/Relation", name := "holds", desc := "(Lcom/example/flicker/flicker/game/Rational;Lcom/example/flicker/flicker/game/Rational;)Z" } : Jvm.MethodName) prog_18_method_6_code (5 : Nat) (Option.some Jvm.ClassFile.FieldType.boolean)).before args0 about1 = true := code_word (m := ⟨6, 1⟩) (meth := k6m1) (c := k6c1) (by decide +kernel) rfl rfl rfl (by decide +kernel)
set_option maxRecDepth 65536 in
theorem w_c9 : (Jvm.Cond.code ({ cls := "com/example/flicker/flicker/game/Rational", name := "compareTo", desc := "(Lcom/example/flicker/flicker/game/Rational;)I" } : Jvm.MethodName) prog_17_method_3_code (2 : Nat) (Option.some Jvm.ClassFile.FieldType.int)).before args0 about1 = true := code_word (m := ⟨8, 1⟩) (meth := k8m1) (c := k8c1) (by decide +kernel) rfl rfl rfl (by decide +kernel)
set_option maxRecDepth 65536 in
theorem w_c10 : (Jvm.Cond.code ({ cls := "com/example/flicker/flicker/game/Rational", name := "compareProducts", desc := "(JJJJ)I" } : Jvm.MethodName) prog_17_method_6_code (9 : Nat) (Option.some Jvm.ClassFile.FieldType.int)).before args0 about1 = true := code_word (m := ⟨8, 2⟩) (meth := k8m2) (c := k8c2) (by decide +kernel) rfl rfl rfl (by decide +kernel)
set_option maxRecDepth 65536 in
theorem w_c11 : (Jvm.Cond.code ({ cls := "java/lang/Math", name := "multiplyHigh", desc := "(JJ)J" } : Jvm.MethodName) jdk_29_method_45_code (20 : Nat) (Option.some Jvm.ClassFile.FieldType.long)).before args0 about1 = true := code_word (m := ⟨9, 1⟩) (meth := k9m1) (c := k9c1) (by decide +kernel) rfl rfl rfl (by decide +kernel)
set_option maxRecDepth 65536 in
theorem w_c12 : (Jvm.Cond.code ({ cls := "java/lang/Long", name := "compare", desc := "(JJ)I" } : Jvm.MethodName) jdk_35_method_42_code (4 : Nat) (Option.some Jvm.ClassFile.FieldType.int)).before args0 about1 = true := code_word (m := ⟨12, 0⟩) (meth := k12m0) (c := k12c0) (by decide +kernel) rfl rfl rfl (by decide +kernel)
set_option maxRecDepth 65536 in
theorem w_c13 : (Jvm.Cond.code ({ cls := "java/lang/Long", name := "compareUnsigned", desc := "(JJ)I" } : Jvm.MethodName) jdk_35_method_43_code (4 : Nat) (Option.some Jvm.ClassFile.FieldType.int)).before args0 about1 = true := code_word (m := ⟨12, 1⟩) (meth := k12m1) (c := k12c1) (by decide +kernel) rfl rfl rfl (by decide +kernel)
set_option maxRecDepth 65536 in
theorem w_c14 : (Jvm.Cond.code ({ cls := "java/lang/Enum", name := "ordinal", desc := "()I" } : Jvm.MethodName) jdk_37_method_2_code (1 : Nat) (Option.some Jvm.ClassFile.FieldType.int)).before args0 about1 = true := code_word (m := ⟨5, 0⟩) (meth := k5m0) (c := k5c0) (by decide +kernel) rfl rfl rfl (by decide +kernel)
def codes1 : List Jvm.Cond := [Jvm.Cond.code x code maxLocals ret, Jvm.Cond.code ({ cls := "com/example/flicker/flicker/game/RelationBoundsBelowPinLaw", name := "pick", desc := "(I)Lcom/example/flicker/flicker/game/Relation;" } : Jvm.MethodName) method_3_code (1 : Nat) (Option.some (Jvm.ClassFile.FieldType.object "com/example/flicker/flicker/game/Relation")), Jvm.Cond.code ({ cls := "com/example/flicker/flicker/game/Rational", name := "<init>", desc := "(JJ)V" } : Jvm.MethodName) prog_17_method_1_code (7 : Nat) (Option.none : Option Jvm.ClassFile.FieldType), Jvm.Cond.code ({ cls := "java/lang/Record", name := "<init>", desc := "()V" } : Jvm.MethodName) jdk_30_method_1_code (1 : Nat) (Option.none : Option Jvm.ClassFile.FieldType), Jvm.Cond.code ({ cls := "java/lang/Object", name := "<init>", desc := "()V" } : Jvm.MethodName) object_method_1_code (1 : Nat) (Option.none : Option Jvm.ClassFile.FieldType), Jvm.Cond.code ({ cls := "com/example/flicker/flicker/game/Rational", name := "gcd", desc := "(JJ)J" } : Jvm.MethodName) prog_17_method_7_code (10 : Nat) (Option.some Jvm.ClassFile.FieldType.long), Jvm.Cond.code ({ cls := "java/lang/Math", name := "abs", desc := "(J)J" } : Jvm.MethodName) jdk_29_method_61_code (2 : Nat) (Option.some Jvm.ClassFile.FieldType.long), Jvm.Cond.code ({ cls := "com/example/flicker/flicker/game/Relation", name := "boundsBelow", desc := "()Z" } : Jvm.MethodName) prog_18_method_5_code (1 : Nat) (Option.some Jvm.ClassFile.FieldType.boolean), Jvm.Cond.code ({ cls := "com/example/flicker/flicker/game/Relation", name := "holds", desc := "(Lcom/example/flicker/flicker/game/Rational;Lcom/example/flicker/flicker/game/Rational;)Z" } : Jvm.MethodName) prog_18_method_6_code (5 : Nat) (Option.some Jvm.ClassFile.FieldType.boolean), Jvm.Cond.code ({ cls := "com/example/flicker/flicker/game/Rational", name := "compareTo", desc := "(Lcom/example/flicker/flicker/game/Rational;)I" } : Jvm.MethodName) prog_17_method_3_code (2 : Nat) (Option.some Jvm.ClassFile.FieldType.int), Jvm.Cond.code ({ cls := "com/example/flicker/flicker/game/Rational", name := "compareProducts", desc := "(JJJJ)I" } : Jvm.MethodName) prog_17_method_6_code (9 : Nat) (Option.some Jvm.ClassFile.FieldType.int), Jvm.Cond.code ({ cls := "java/lang/Math", name := "multiplyHigh", desc := "(JJ)J" } : Jvm.MethodName) jdk_29_method_45_code (20 : Nat) (Option.some Jvm.ClassFile.FieldType.long), Jvm.Cond.code ({ cls := "java/lang/Long", name := "compare", desc := "(JJ)I" } : Jvm.MethodName) jdk_35_method_42_code (4 : Nat) (Option.some Jvm.ClassFile.FieldType.int), Jvm.Cond.code ({ cls := "java/lang/Long", name := "compareUnsigned", desc := "(JJ)I" } : Jvm.MethodName) jdk_35_method_43_code (4 : Nat) (Option.some Jvm.ClassFile.FieldType.int), Jvm.Cond.code ({ cls := "java/lang/Enum", name := "ordinal", desc := "()I" } : Jvm.MethodName) jdk_37_method_2_code (1 : Nat) (Option.some Jvm.ClassFile.FieldType.int)]
set_option maxRecDepth 65536 in
theorem codes_eq : words1.filter isCode = codes1 := rfl
theorem w_codes : ∀ c ∈ words1.filter isCode, c.before args0 about1 = true := by
  rw [codes_eq]
  intro c hc
  simp only [codes1, List.mem_cons, List.not_mem_nil, or_false] at hc
  rcases hc with rfl | rfl | rfl | rfl | rfl | rfl | rfl | rfl | rfl | rfl | rfl | rfl | rfl | rfl | rfl
  · exact w_c0
  · exact w_c1
  · exact w_c2
  · exact w_c3
  · exact w_c4
  · exact w_c5
  · exact w_c6
  · exact w_c7
  · exact w_c8
  · exact w_c9
  · exact w_c10
  · exact w_c11
  · exact w_c12
  · exact w_c13
  · exact w_c14
set_option maxRecDepth 65536 in
theorem w_t1 : (words1.take 24).all (fun c => isCode c || c.before args0 about1) = true := by decide +kernel
set_option maxRecDepth 65536 in
theorem w_t2 : ((words1.drop 24).take 24).all (fun c => isCode c || c.before args0 about1) = true := by decide +kernel
set_option maxRecDepth 65536 in
theorem w_t3 : (((words1.drop 24).drop 24).take 24).all (fun c => isCode c || c.before args0 about1) = true := by decide +kernel
set_option maxRecDepth 65536 in
theorem w_t4 : (((words1.drop 24).drop 24).drop 24).all (fun c => isCode c || c.before args0 about1) = true := by decide +kernel
theorem w_tables : (allAtoms (Jvm.Cond.code x code maxLocals ret :: tables_1)).before args0 about1 = true := by
  rw [allAtoms_all]
  show words1.all (fun c => c.before args0 about1) = true
  refine all_split ?_ w_codes
  rw [← List.take_append_drop 24 words1, List.all_append, w_t1, ← List.take_append_drop 24 (words1.drop 24), List.all_append, w_t2, ← List.take_append_drop 24 ((words1.drop 24).drop 24), List.all_append, w_t3, w_t4]
  rfl
set_option maxRecDepth 65536 in
theorem w_case : (Jvm.Cond.and given_1 narrow_1).before args0 about1 = true := by decide +kernel
theorem w_applies : (headSpec (Jvm.Cond.code x code maxLocals ret :: tables_1) room_1).applies x e0.platform about1 = true :=
  (Spec.applies_iff w_frames).mpr ⟨w_running, w_runnable, w_alone, w_named, w_hears, w_ripe, w_room, w_tables⟩
theorem atStart : AtStart classFile x code maxLocals ret World_1 tables_1 room_1 Calls_1 rest_1 Pre_1 launch0 p0 e0 about1 theMethod args0 below0 :=
  ⟨lists_1, trivial, launch0.admits_env _ _ _, launch0.least_env, fairChoices_fair.cas, fairChoices_fair.clock, w_frames, w_args, w_heap, w_applies, trivial, trivial, w_case⟩
end start1
theorem witness_1 : WitnessClaimed_1 := ⟨start1.p0, start1.e0, start1.about1, start1.theMethod, start1.args0, start1.below0, start1.atStart⟩
end Jvm.Pilot.@@N@@
