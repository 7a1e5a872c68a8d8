import JvmDerived
import JvmDerived.Pilot.@@N@@Statement
import JvmDerived.Pilot.@@N@@Code
set_option linter.unusedVariables false
set_option linter.unusedSimpArgs false
@@BLOCK:NumsL.lean.txt@@
namespace Jvm.RoadKit
open Sem ClassFile Op Lib Jvm.Stand Jvm.Free Jvm.LawKit
/-- from U the run comes to an end of the invocation at which P holds -/
def Wp (p : Program) (e : Env) (below : List Frame) (P : State → Outcome → Prop) (U : State) : Prop :=
  ∃ s₂ o, Steps p.tables e below U s₂ ∧ s₂.status = .running ∧ Ended s₂ below o ∧ P s₂ o
theorem Wp.of {p : Program} {e : Env} {below : List Frame} {P : State → Outcome → Prop} {U U' : State} (f : ∀ t, Steps p.tables e below U' t → Steps p.tables e below U t) (k : Wp p e below P U') : Wp p e below P U := by
  obtain ⟨s2, o, a, b⟩ := k; exact ⟨s2, o, f _ a, b⟩
theorem Wp.tr {p : Program} {e : Env} {below : List Frame} {P : State → Outcome → Prop} {U U' : State} (f : Steps p.tables e below U U') (k : Wp p e below P U') : Wp p e below P U := by
  obtain ⟨s2, o, a, b⟩ := k; exact ⟨s2, o, f.trans a, b⟩
theorem Wp.cast {p : Program} {e : Env} {below : List Frame} {P : State → Outcome → Prop} {T : State} {g g' : JFrame} (q : g = g') (k : Wp p e below P (T.setTop g')) : Wp p e below P (T.setTop g) := q ▸ k
/-- where the walk stands: the library's Stand, what stays the same throughout a body, the heap, that only new places were written, that the start's cells are as they were -/
def Sd (Z : State) (n0 kk : Nat) (code : ByteArray) (ml : Nat) (own nm : String) (ret : Option FieldType) (h : Heap) (p : Program) (l : Launch) (e : Env) (R : Room) (s : State) (m : MethodId) (args : Array Value) (below : List Frame) (meth : Method) (c : Code) (T : State) (locs : List Loc) (cells slots : Nat) : Prop :=
  Stand p l e R s m args below meth c T locs cells slots ∧ (p.tables.exec = Jvm.exec ∧ c.code = code ∧ c.maxLocals = ml ∧ s.vm.findClass own = some m.cls ∧ Z.Warmed39 s.vm ∧ meth.sig.returnType = ret ∧ meth.name = nm ∧ meth.locks = false) ∧ T.heap = h ∧ Fr n0 locs ∧ Old Z n0 h ∧ kk ≤ h.size
/-- an instruction of n bytes and the pc behind it -/
def Dc (code : ByteArray) (pc : Nat) (i : Instr) (n pc' : Nat) : Prop := decode code pc = .ok (i, n) ∧ pc + n = pc'
/-- a branch of three bytes, its target and the pc behind it -/
def Bc (code : ByteArray) (pc : Nat) (f : Int → Instr) (t pc' : Nat) : Prop := ∃ o, decode code pc = .ok (f o, 3) ∧ 0 ≤ (pc : Int) + o ∧ ((pc : Int) + o).toNat = t ∧ pc + 3 = pc'

section Sd
variable {Z : State} {n0 kk : Nat} {code : ByteArray} {ml : Nat} {own nm : String} {ret : Option FieldType} {h : Heap} {p : Program} {l : Launch} {e : Env} {R : Room} {s : State} {m : MethodId} {args : Array Value} {below : List Frame} {meth : Method} {c : Code} {T : State} {locs : List Loc} {cells slots : Nat} {P : State → Outcome → Prop} {a0 : Array Value}
theorem Sd.st (X : Sd Z n0 kk code ml own nm ret h p l e R s m args below meth c T locs cells slots) : Stand p l e R s m args below meth c T locs cells slots := X.1
theorem Sd.hx (X : Sd Z n0 kk code ml own nm ret h p l e R s m args below meth c T locs cells slots) : p.tables.exec = Jvm.exec := X.2.1.1
theorem Sd.hb (X : Sd Z n0 kk code ml own nm ret h p l e R s m args below meth c T locs cells slots) {pc : Nat} {r : Except DecodeError (Instr × Nat)} (q : decode code pc = r) : decode c.code pc = r := X.2.1.2.1 ▸ q
theorem Sd.hml (X : Sd Z n0 kk code ml own nm ret h p l e R s m args below meth c T locs cells slots) : c.maxLocals = ml := X.2.1.2.2.1
theorem Sd.hown (X : Sd Z n0 kk code ml own nm ret h p l e R s m args below meth c T locs cells slots) : s.vm.findClass own = some m.cls := X.2.1.2.2.2.1
theorem Sd.hZ (X : Sd Z n0 kk code ml own nm ret h p l e R s m args below meth c T locs cells slots) : Z.Warmed39 s.vm := X.2.1.2.2.2.2.1
theorem Sd.hret (X : Sd Z n0 kk code ml own nm ret h p l e R s m args below meth c T locs cells slots) : meth.sig.returnType = ret := X.2.1.2.2.2.2.2.1
theorem Sd.hnm (X : Sd Z n0 kk code ml own nm ret h p l e R s m args below meth c T locs cells slots) : meth.name = nm := X.2.1.2.2.2.2.2.2.1
theorem Sd.hlk (X : Sd Z n0 kk code ml own nm ret h p l e R s m args below meth c T locs cells slots) : meth.locks = false := X.2.1.2.2.2.2.2.2.2
theorem Sd.eh (X : Sd Z n0 kk code ml own nm ret h p l e R s m args below meth c T locs cells slots) : T.heap = h := X.2.2.1
theorem Sd.fr (X : Sd Z n0 kk code ml own nm ret h p l e R s m args below meth c T locs cells slots) : Fr n0 locs := X.2.2.2.1
theorem Sd.old (X : Sd Z n0 kk code ml own nm ret h p l e R s m args below meth c T locs cells slots) : Old Z n0 h := X.2.2.2.2.1
theorem Sd.hkk (X : Sd Z n0 kk code ml own nm ret h p l e R s m args below meth c T locs cells slots) : kk ≤ h.size := X.2.2.2.2.2
theorem Sd.mk' {h' : Heap} {T' : State} {locs' : List Loc} {c' s' : Nat} (X : Sd Z n0 kk code ml own nm ret h p l e R s m args below meth c T locs cells slots) (Y : Stand p l e R s m args below meth c T' locs' c' s') (q1 : T'.heap = h') (q2 : Fr n0 locs') (q3 : Old Z n0 h') (q4 : h.size ≤ h'.size) : Sd Z n0 kk code ml own nm ret h' p l e R s m args below meth c T' locs' c' s' := ⟨Y, X.2.1, q1, q2, q3, Nat.le_trans X.hkk q4⟩
end Sd
section Steps
variable {Z : State} {n0 kk : Nat} {code : ByteArray} {ml : Nat} {own nm : String} {ret : Option FieldType} {h : Heap} {p : Program} {l : Launch} {e : Env} {R : Room} {s : State} {m : MethodId} {args : Array Value} {below : List Frame} {meth : Method} {c : Code} {T : State} {locs : List Loc} {cells slots : Nat} {P : State → Outcome → Prop} {a0 : Array Value} {pc pc' : Nat} {L : Array Slot} {S : List Value}
theorem w_iloadN (X : Sd Z n0 kk code ml own nm ret h p l e R s m args below meth c T locs cells slots) {k : Fin 4} {v : Int32} (hd : Dc code pc (.iload_n k) 1 pc') (hl : L[k.val]? = some (.val (.int v))) (K : Wp p e below P (T.setTop (mkF m pc' L (.int v :: S)))) : Wp p e below P (T.setTop (mkF m pc L S)) := by
  obtain ⟨hd, rfl⟩ := hd
  exact Wp.of (fun _ k => XS.iloadN X.st.here X.hx rfl (X.hb hd) hl k) K
theorem w_iload (X : Sd Z n0 kk code ml own nm ret h p l e R s m args below meth c T locs cells slots) {k : Nat} {v : Int32} (hd : Dc code pc (.iload k) 2 pc') (hl : L[k]? = some (.val (.int v))) (K : Wp p e below P (T.setTop (mkF m pc' L (.int v :: S)))) : Wp p e below P (T.setTop (mkF m pc L S)) := by
  obtain ⟨hd, rfl⟩ := hd
  exact Wp.of (fun _ k => XS.iload X.st.here X.hx rfl (X.hb hd) hl k) K
theorem w_lloadN (X : Sd Z n0 kk code ml own nm ret h p l e R s m args below meth c T locs cells slots) {k : Fin 4} {v : Int64} (hd : Dc code pc (.lload_n k) 1 pc') (hl : L[k.val]? = some (.val (.long v))) (K : Wp p e below P (T.setTop (mkF m pc' L (.long v :: S)))) : Wp p e below P (T.setTop (mkF m pc L S)) := by
  obtain ⟨hd, rfl⟩ := hd
  exact Wp.of (fun _ k => XS.lloadN X.st.here X.hx rfl (X.hb hd) hl k) K
theorem w_lload (X : Sd Z n0 kk code ml own nm ret h p l e R s m args below meth c T locs cells slots) {k : Nat} {v : Int64} (hd : Dc code pc (.lload k) 2 pc') (hl : L[k]? = some (.val (.long v))) (K : Wp p e below P (T.setTop (mkF m pc' L (.long v :: S)))) : Wp p e below P (T.setTop (mkF m pc L S)) := by
  obtain ⟨hd, rfl⟩ := hd
  exact Wp.of (fun _ k => XS.lload X.st.here X.hx rfl (X.hb hd) hl k) K
theorem w_aloadN (X : Sd Z n0 kk code ml own nm ret h p l e R s m args below meth c T locs cells slots) {k : Fin 4} {v : Value} (hd : Dc code pc (.aload_n k) 1 pc') (hl : L[k.val]? = some (.val v)) (hv : v.isRef = true) (K : Wp p e below P (T.setTop (mkF m pc' L (v :: S)))) : Wp p e below P (T.setTop (mkF m pc L S)) := by
  obtain ⟨hd, rfl⟩ := hd
  exact Wp.of (fun _ k => XS.aloadN X.st.here X.hx rfl (X.hb hd) hl hv k) K
theorem w_aload (X : Sd Z n0 kk code ml own nm ret h p l e R s m args below meth c T locs cells slots) {k : Nat} {v : Value} (hd : Dc code pc (.aload k) 2 pc') (hl : L[k]? = some (.val v)) (hv : v.isRef = true) (K : Wp p e below P (T.setTop (mkF m pc' L (v :: S)))) : Wp p e below P (T.setTop (mkF m pc L S)) := by
  obtain ⟨hd, rfl⟩ := hd
  exact Wp.of (fun _ k => XS.aload X.st.here X.hx rfl (X.hb hd) hl hv k) K
theorem w_istoreN (X : Sd Z n0 kk code ml own nm ret h p l e R s m args below meth c T locs cells slots) {k : Fin 4} {v : Int32} (L' : Array Slot) (hd : Dc code pc (.istore_n k) 1 pc') (hl : storeLocals L k.val (.int v) = some L') (K : Wp p e below P (T.setTop (mkF m pc' L' S))) : Wp p e below P (T.setTop (mkF m pc L (.int v :: S))) := by
  obtain ⟨hd, rfl⟩ := hd
  exact Wp.of (fun _ k => XS.istoreN X.st.here X.hx rfl (X.hb hd) rfl hl k) K
theorem w_istore (X : Sd Z n0 kk code ml own nm ret h p l e R s m args below meth c T locs cells slots) {k : Nat} {v : Int32} (L' : Array Slot) (hd : Dc code pc (.istore k) 2 pc') (hl : storeLocals L k (.int v) = some L') (K : Wp p e below P (T.setTop (mkF m pc' L' S))) : Wp p e below P (T.setTop (mkF m pc L (.int v :: S))) := by
  obtain ⟨hd, rfl⟩ := hd
  exact Wp.of (fun _ k => XS.istore X.st.here X.hx rfl (X.hb hd) rfl hl k) K
theorem w_lstoreN (X : Sd Z n0 kk code ml own nm ret h p l e R s m args below meth c T locs cells slots) {k : Fin 4} {v : Int64} (L' : Array Slot) (hd : Dc code pc (.lstore_n k) 1 pc') (hl : storeLocals L k.val (.long v) = some L') (K : Wp p e below P (T.setTop (mkF m pc' L' S))) : Wp p e below P (T.setTop (mkF m pc L (.long v :: S))) := by
  obtain ⟨hd, rfl⟩ := hd
  exact Wp.of (fun _ k => XS.lstoreN X.st.here X.hx rfl (X.hb hd) rfl hl k) K
theorem w_lstore (X : Sd Z n0 kk code ml own nm ret h p l e R s m args below meth c T locs cells slots) {k : Nat} {v : Int64} (L' : Array Slot) (hd : Dc code pc (.lstore k) 2 pc') (hl : storeLocals L k (.long v) = some L') (K : Wp p e below P (T.setTop (mkF m pc' L' S))) : Wp p e below P (T.setTop (mkF m pc L (.long v :: S))) := by
  obtain ⟨hd, rfl⟩ := hd
  exact Wp.of (fun _ k => XS.lstore X.st.here X.hx rfl (X.hb hd) rfl hl k) K
theorem w_astoreN (X : Sd Z n0 kk code ml own nm ret h p l e R s m args below meth c T locs cells slots) {k : Fin 4} {v : Value} (L' : Array Slot) (hd : Dc code pc (.astore_n k) 1 pc') (hv : v.isRef = true) (hl : storeLocals L k.val v = some L') (K : Wp p e below P (T.setTop (mkF m pc' L' S))) : Wp p e below P (T.setTop (mkF m pc L (v :: S))) := by
  obtain ⟨hd, rfl⟩ := hd
  exact Wp.of (fun _ k => XS.astoreN X.st.here X.hx rfl (X.hb hd) rfl hv hl k) K
theorem w_astore (X : Sd Z n0 kk code ml own nm ret h p l e R s m args below meth c T locs cells slots) {k : Nat} {v : Value} (L' : Array Slot) (hd : Dc code pc (.astore k) 2 pc') (hv : v.isRef = true) (hl : storeLocals L k v = some L') (K : Wp p e below P (T.setTop (mkF m pc' L' S))) : Wp p e below P (T.setTop (mkF m pc L (v :: S))) := by
  obtain ⟨hd, rfl⟩ := hd
  exact Wp.of (fun _ k => XS.astore X.st.here X.hx rfl (X.hb hd) rfl hv hl k) K
theorem w_iinc (X : Sd Z n0 kk code ml own nm ret h p l e R s m args below meth c T locs cells slots) {k : Nat} {q : Int} {v : Int32} (z : Int32) (L' : Array Slot) (hd : Dc code pc (.iinc k q) 3 pc') (hq : Int32.ofInt q = z) (hg : L[k]? = some (.val (.int v))) (hl : storeLocals L k (.int (v + z)) = some L') (K : Wp p e below P (T.setTop (mkF m pc' L' S))) : Wp p e below P (T.setTop (mkF m pc L S)) := by
  obtain ⟨hd, rfl⟩ := hd
  exact Wp.of (fun _ k => XS.iinc X.st.here X.hx rfl (X.hb hd) hg (hq ▸ hl) k) K
theorem w_iconst (X : Sd Z n0 kk code ml own nm ret h p l e R s m args below meth c T locs cells slots) {i : Int} (v : Int32) (hd : Dc code pc (.iconst i) 1 pc') (hv : Int32.ofInt i = v) (K : Wp p e below P (T.setTop (mkF m pc' L (.int v :: S)))) : Wp p e below P (T.setTop (mkF m pc L S)) := by
  obtain ⟨hd, rfl⟩ := hd
  exact Wp.of (fun _ k => XS.iconst X.st.here X.hx rfl (X.hb hd) (by rw [hv]; exact k)) K
theorem w_bipush (X : Sd Z n0 kk code ml own nm ret h p l e R s m args below meth c T locs cells slots) {i : Int} (v : Int32) (hd : Dc code pc (.bipush i) 2 pc') (hv : (Int8.ofInt i).toInt32 = v) (K : Wp p e below P (T.setTop (mkF m pc' L (.int v :: S)))) : Wp p e below P (T.setTop (mkF m pc L S)) := by
  obtain ⟨hd, rfl⟩ := hd
  exact Wp.of (fun _ k => XS.bipush X.st.here X.hx rfl (X.hb hd) (by rw [hv]; exact k)) K
theorem w_sipush (X : Sd Z n0 kk code ml own nm ret h p l e R s m args below meth c T locs cells slots) {i : Int} (v : Int32) (hd : Dc code pc (.sipush i) 3 pc') (hv : (Int16.ofInt i).toInt32 = v) (K : Wp p e below P (T.setTop (mkF m pc' L (.int v :: S)))) : Wp p e below P (T.setTop (mkF m pc L S)) := by
  obtain ⟨hd, rfl⟩ := hd
  exact Wp.of (fun _ k => XS.sipush X.st.here X.hx rfl (X.hb hd) (by rw [hv]; exact k)) K
theorem w_lconst (X : Sd Z n0 kk code ml own nm ret h p l e R s m args below meth c T locs cells slots) {i : Fin 2} (v : Int64) (hd : Dc code pc (.lconst i) 1 pc') (hv : Int64.ofNat i = v) (K : Wp p e below P (T.setTop (mkF m pc' L (.long v :: S)))) : Wp p e below P (T.setTop (mkF m pc L S)) := by
  obtain ⟨hd, rfl⟩ := hd
  exact Wp.of (fun _ k => XS.lconst X.st.here X.hx rfl (X.hb hd) (by rw [hv]; exact k)) K
theorem w_aconstNull (X : Sd Z n0 kk code ml own nm ret h p l e R s m args below meth c T locs cells slots)  (hd : Dc code pc (.aconst_null) 1 pc')  (K : Wp p e below P (T.setTop (mkF m pc' L (.null :: S)))) : Wp p e below P (T.setTop (mkF m pc L S)) := by
  obtain ⟨hd, rfl⟩ := hd
  exact Wp.of (fun _ k => XS.aconstNull X.st.here X.hx rfl (X.hb hd) k) K
theorem w_iadd (X : Sd Z n0 kk code ml own nm ret h p l e R s m args below meth c T locs cells slots) {x y : Int32} (hd : Dc code pc (.iadd) 1 pc')  (K : Wp p e below P (T.setTop (mkF m pc' L (.int (x + y) :: S)))) : Wp p e below P (T.setTop (mkF m pc L (.int y :: .int x :: S))) := by
  obtain ⟨hd, rfl⟩ := hd
  exact Wp.of (fun _ k => XS.iadd X.st.here X.hx rfl (X.hb hd) rfl k) K
theorem w_ladd (X : Sd Z n0 kk code ml own nm ret h p l e R s m args below meth c T locs cells slots) {x y : Int64} (hd : Dc code pc (.ladd) 1 pc')  (K : Wp p e below P (T.setTop (mkF m pc' L (.long (x + y) :: S)))) : Wp p e below P (T.setTop (mkF m pc L (.long y :: .long x :: S))) := by
  obtain ⟨hd, rfl⟩ := hd
  exact Wp.of (fun _ k => XS.ladd X.st.here X.hx rfl (X.hb hd) rfl k) K
theorem w_isub (X : Sd Z n0 kk code ml own nm ret h p l e R s m args below meth c T locs cells slots) {x y : Int32} (hd : Dc code pc (.isub) 1 pc')  (K : Wp p e below P (T.setTop (mkF m pc' L (.int (x - y) :: S)))) : Wp p e below P (T.setTop (mkF m pc L (.int y :: .int x :: S))) := by
  obtain ⟨hd, rfl⟩ := hd
  exact Wp.of (fun _ k => XS.isub X.st.here X.hx rfl (X.hb hd) rfl k) K
theorem w_lsub (X : Sd Z n0 kk code ml own nm ret h p l e R s m args below meth c T locs cells slots) {x y : Int64} (hd : Dc code pc (.lsub) 1 pc')  (K : Wp p e below P (T.setTop (mkF m pc' L (.long (x - y) :: S)))) : Wp p e below P (T.setTop (mkF m pc L (.long y :: .long x :: S))) := by
  obtain ⟨hd, rfl⟩ := hd
  exact Wp.of (fun _ k => XS.lsub X.st.here X.hx rfl (X.hb hd) rfl k) K
theorem w_imul (X : Sd Z n0 kk code ml own nm ret h p l e R s m args below meth c T locs cells slots) {x y : Int32} (hd : Dc code pc (.imul) 1 pc')  (K : Wp p e below P (T.setTop (mkF m pc' L (.int (x * y) :: S)))) : Wp p e below P (T.setTop (mkF m pc L (.int y :: .int x :: S))) := by
  obtain ⟨hd, rfl⟩ := hd
  exact Wp.of (fun _ k => XS.imul X.st.here X.hx rfl (X.hb hd) rfl k) K
theorem w_lmul (X : Sd Z n0 kk code ml own nm ret h p l e R s m args below meth c T locs cells slots) {x y : Int64} (hd : Dc code pc (.lmul) 1 pc')  (K : Wp p e below P (T.setTop (mkF m pc' L (.long (x * y) :: S)))) : Wp p e below P (T.setTop (mkF m pc L (.long y :: .long x :: S))) := by
  obtain ⟨hd, rfl⟩ := hd
  exact Wp.of (fun _ k => XS.lmul X.st.here X.hx rfl (X.hb hd) rfl k) K
theorem w_iand (X : Sd Z n0 kk code ml own nm ret h p l e R s m args below meth c T locs cells slots) {x y : Int32} (hd : Dc code pc (.iand) 1 pc')  (K : Wp p e below P (T.setTop (mkF m pc' L (.int (x &&& y) :: S)))) : Wp p e below P (T.setTop (mkF m pc L (.int y :: .int x :: S))) := by
  obtain ⟨hd, rfl⟩ := hd
  exact Wp.of (fun _ k => XS.iand X.st.here X.hx rfl (X.hb hd) rfl k) K
theorem w_land (X : Sd Z n0 kk code ml own nm ret h p l e R s m args below meth c T locs cells slots) {x y : Int64} (hd : Dc code pc (.land) 1 pc')  (K : Wp p e below P (T.setTop (mkF m pc' L (.long (x &&& y) :: S)))) : Wp p e below P (T.setTop (mkF m pc L (.long y :: .long x :: S))) := by
  obtain ⟨hd, rfl⟩ := hd
  exact Wp.of (fun _ k => XS.land X.st.here X.hx rfl (X.hb hd) rfl k) K
theorem w_ior (X : Sd Z n0 kk code ml own nm ret h p l e R s m args below meth c T locs cells slots) {x y : Int32} (hd : Dc code pc (.ior) 1 pc')  (K : Wp p e below P (T.setTop (mkF m pc' L (.int (x ||| y) :: S)))) : Wp p e below P (T.setTop (mkF m pc L (.int y :: .int x :: S))) := by
  obtain ⟨hd, rfl⟩ := hd
  exact Wp.of (fun _ k => XS.ior X.st.here X.hx rfl (X.hb hd) rfl k) K
theorem w_lor (X : Sd Z n0 kk code ml own nm ret h p l e R s m args below meth c T locs cells slots) {x y : Int64} (hd : Dc code pc (.lor) 1 pc')  (K : Wp p e below P (T.setTop (mkF m pc' L (.long (x ||| y) :: S)))) : Wp p e below P (T.setTop (mkF m pc L (.long y :: .long x :: S))) := by
  obtain ⟨hd, rfl⟩ := hd
  exact Wp.of (fun _ k => XS.lor X.st.here X.hx rfl (X.hb hd) rfl k) K
theorem w_ixor (X : Sd Z n0 kk code ml own nm ret h p l e R s m args below meth c T locs cells slots) {x y : Int32} (hd : Dc code pc (.ixor) 1 pc')  (K : Wp p e below P (T.setTop (mkF m pc' L (.int (x ^^^ y) :: S)))) : Wp p e below P (T.setTop (mkF m pc L (.int y :: .int x :: S))) := by
  obtain ⟨hd, rfl⟩ := hd
  exact Wp.of (fun _ k => XS.ixor X.st.here X.hx rfl (X.hb hd) rfl k) K
theorem w_lxor (X : Sd Z n0 kk code ml own nm ret h p l e R s m args below meth c T locs cells slots) {x y : Int64} (hd : Dc code pc (.lxor) 1 pc')  (K : Wp p e below P (T.setTop (mkF m pc' L (.long (x ^^^ y) :: S)))) : Wp p e below P (T.setTop (mkF m pc L (.long y :: .long x :: S))) := by
  obtain ⟨hd, rfl⟩ := hd
  exact Wp.of (fun _ k => XS.lxor X.st.here X.hx rfl (X.hb hd) rfl k) K
theorem w_ineg (X : Sd Z n0 kk code ml own nm ret h p l e R s m args below meth c T locs cells slots) {x : Int32} (hd : Dc code pc (.ineg) 1 pc')  (K : Wp p e below P (T.setTop (mkF m pc' L (.int (-x) :: S)))) : Wp p e below P (T.setTop (mkF m pc L (.int x :: S))) := by
  obtain ⟨hd, rfl⟩ := hd
  exact Wp.of (fun _ k => XS.ineg X.st.here X.hx rfl (X.hb hd) rfl k) K
theorem w_lneg (X : Sd Z n0 kk code ml own nm ret h p l e R s m args below meth c T locs cells slots) {x : Int64} (hd : Dc code pc (.lneg) 1 pc')  (K : Wp p e below P (T.setTop (mkF m pc' L (.long (-x) :: S)))) : Wp p e below P (T.setTop (mkF m pc L (.long x :: S))) := by
  obtain ⟨hd, rfl⟩ := hd
  exact Wp.of (fun _ k => XS.lneg X.st.here X.hx rfl (X.hb hd) rfl k) K
theorem w_idiv (X : Sd Z n0 kk code ml own nm ret h p l e R s m args below meth c T locs cells slots) {x y : Int32} (hd : Dc code pc (.idiv) 1 pc') (hy : ¬ y = 0) (K : Wp p e below P (T.setTop (mkF m pc' L (.int (x / y) :: S)))) : Wp p e below P (T.setTop (mkF m pc L (.int y :: .int x :: S))) := by
  obtain ⟨hd, rfl⟩ := hd
  exact Wp.of (fun _ k => XS.idiv X.st.here X.hx rfl (X.hb hd) rfl hy k) K
theorem w_ldiv (X : Sd Z n0 kk code ml own nm ret h p l e R s m args below meth c T locs cells slots) {x y : Int64} (hd : Dc code pc (.ldiv) 1 pc') (hy : ¬ y = 0) (K : Wp p e below P (T.setTop (mkF m pc' L (.long (x / y) :: S)))) : Wp p e below P (T.setTop (mkF m pc L (.long y :: .long x :: S))) := by
  obtain ⟨hd, rfl⟩ := hd
  exact Wp.of (fun _ k => XS.ldiv X.st.here X.hx rfl (X.hb hd) rfl hy k) K
theorem own_irem (x y : Int32) : x - (x / y) * y = x % y := by
  apply Int32.toInt_inj.mp
  have h1 := Int32.le_toInt (x % y)
  have h2 := Int32.toInt_lt (x % y)
  rw [Int32.toInt_mod] at h1 h2 ⊢
  rw [Int32.toInt_sub, Int32.toInt_mul, Int32.toInt_div, Int.bmod_mul_bmod, Int.sub_bmod_bmod]
  have e : x.toInt - x.toInt.tdiv y.toInt * y.toInt = x.toInt.tmod y.toInt := by rw [Int.mul_comm]; exact (Int.tmod_def _ _).symm
  rw [e, Int.bmod_eq_of_le (by omega) (by omega)]
theorem w_irem (X : Sd Z n0 kk code ml own nm ret h p l e R s m args below meth c T locs cells slots) {x y : Int32} (hd : Dc code pc (.irem) 1 pc') (hy : ¬ y = 0) (K : Wp p e below P (T.setTop (mkF m pc' L (.int (x % y) :: S)))) : Wp p e below P (T.setTop (mkF m pc L (.int y :: .int x :: S))) := by
  obtain ⟨hd, rfl⟩ := hd
  exact Wp.of (fun _ k => XS.irem X.st.here X.hx rfl (X.hb hd) rfl hy (by rw [own_irem]; exact k)) K
theorem w_lrem (X : Sd Z n0 kk code ml own nm ret h p l e R s m args below meth c T locs cells slots) {x y : Int64} (hd : Dc code pc (.lrem) 1 pc') (hy : ¬ y = 0) (K : Wp p e below P (T.setTop (mkF m pc' L (.long (x % y) :: S)))) : Wp p e below P (T.setTop (mkF m pc L (.long y :: .long x :: S))) := by
  obtain ⟨hd, rfl⟩ := hd
  exact Wp.of (fun _ k => XS.lrem X.st.here X.hx rfl (X.hb hd) rfl hy (by rw [lrem_mod]; exact k)) K
theorem w_ishl (X : Sd Z n0 kk code ml own nm ret h p l e R s m args below meth c T locs cells slots) {x y : Int32} (hd : Dc code pc (.ishl) 1 pc')  (K : Wp p e below P (T.setTop (mkF m pc' L (.int (x <<< (y &&& 31)) :: S)))) : Wp p e below P (T.setTop (mkF m pc L (.int y :: .int x :: S))) := by
  obtain ⟨hd, rfl⟩ := hd
  exact Wp.of (fun _ k => XS.ishl X.st.here X.hx rfl (X.hb hd) rfl k) K
theorem w_ishr (X : Sd Z n0 kk code ml own nm ret h p l e R s m args below meth c T locs cells slots) {x y : Int32} (hd : Dc code pc (.ishr) 1 pc')  (K : Wp p e below P (T.setTop (mkF m pc' L (.int (x >>> (y &&& 31)) :: S)))) : Wp p e below P (T.setTop (mkF m pc L (.int y :: .int x :: S))) := by
  obtain ⟨hd, rfl⟩ := hd
  exact Wp.of (fun _ k => XS.ishr X.st.here X.hx rfl (X.hb hd) rfl k) K
theorem w_iushr (X : Sd Z n0 kk code ml own nm ret h p l e R s m args below meth c T locs cells slots) {x y : Int32} (hd : Dc code pc (.iushr) 1 pc')  (K : Wp p e below P (T.setTop (mkF m pc' L (.int ((x.toUInt32 >>> (y &&& 31).toUInt32).toInt32) :: S)))) : Wp p e below P (T.setTop (mkF m pc L (.int y :: .int x :: S))) := by
  obtain ⟨hd, rfl⟩ := hd
  exact Wp.of (fun _ k => XS.iushr X.st.here X.hx rfl (X.hb hd) rfl k) K
theorem w_lshl (X : Sd Z n0 kk code ml own nm ret h p l e R s m args below meth c T locs cells slots) {x : Int64} {y : Int32} (hd : Dc code pc (.lshl) 1 pc')  (K : Wp p e below P (T.setTop (mkF m pc' L (.long (x <<< (y &&& 0x3f).toInt64) :: S)))) : Wp p e below P (T.setTop (mkF m pc L (.int y :: .long x :: S))) := by
  obtain ⟨hd, rfl⟩ := hd
  exact Wp.of (fun _ k => XS.lshl X.st.here X.hx rfl (X.hb hd) rfl k) K
theorem w_lshr (X : Sd Z n0 kk code ml own nm ret h p l e R s m args below meth c T locs cells slots) {x : Int64} {y : Int32} (hd : Dc code pc (.lshr) 1 pc')  (K : Wp p e below P (T.setTop (mkF m pc' L (.long (x >>> (y &&& 0x3f).toInt64) :: S)))) : Wp p e below P (T.setTop (mkF m pc L (.int y :: .long x :: S))) := by
  obtain ⟨hd, rfl⟩ := hd
  exact Wp.of (fun _ k => XS.lshr X.st.here X.hx rfl (X.hb hd) rfl k) K
theorem w_lushr (X : Sd Z n0 kk code ml own nm ret h p l e R s m args below meth c T locs cells slots) {x : Int64} {y : Int32} (hd : Dc code pc (.lushr) 1 pc')  (K : Wp p e below P (T.setTop (mkF m pc' L (.long ((x.toUInt64 >>> (y &&& 0x3f).toInt64.toUInt64).toInt64) :: S)))) : Wp p e below P (T.setTop (mkF m pc L (.int y :: .long x :: S))) := by
  obtain ⟨hd, rfl⟩ := hd
  exact Wp.of (fun _ k => XS.lushr X.st.here X.hx rfl (X.hb hd) rfl k) K
theorem w_i2l (X : Sd Z n0 kk code ml own nm ret h p l e R s m args below meth c T locs cells slots) {x : Int32} (hd : Dc code pc (.i2l) 1 pc')  (K : Wp p e below P (T.setTop (mkF m pc' L (.long (x.toInt64) :: S)))) : Wp p e below P (T.setTop (mkF m pc L (.int x :: S))) := by
  obtain ⟨hd, rfl⟩ := hd
  exact Wp.of (fun _ k => XS.i2l X.st.here X.hx rfl (X.hb hd) rfl k) K
theorem w_i2b (X : Sd Z n0 kk code ml own nm ret h p l e R s m args below meth c T locs cells slots) {x : Int32} (hd : Dc code pc (.i2b) 1 pc')  (K : Wp p e below P (T.setTop (mkF m pc' L (.int (x.toInt8.toInt32) :: S)))) : Wp p e below P (T.setTop (mkF m pc L (.int x :: S))) := by
  obtain ⟨hd, rfl⟩ := hd
  exact Wp.of (fun _ k => XS.i2b X.st.here X.hx rfl (X.hb hd) rfl k) K
theorem w_i2s (X : Sd Z n0 kk code ml own nm ret h p l e R s m args below meth c T locs cells slots) {x : Int32} (hd : Dc code pc (.i2s) 1 pc')  (K : Wp p e below P (T.setTop (mkF m pc' L (.int (x.toInt16.toInt32) :: S)))) : Wp p e below P (T.setTop (mkF m pc L (.int x :: S))) := by
  obtain ⟨hd, rfl⟩ := hd
  exact Wp.of (fun _ k => XS.i2s X.st.here X.hx rfl (X.hb hd) rfl k) K
theorem w_i2c (X : Sd Z n0 kk code ml own nm ret h p l e R s m args below meth c T locs cells slots) {x : Int32} (hd : Dc code pc (.i2c) 1 pc')  (K : Wp p e below P (T.setTop (mkF m pc' L (.int (x.toUInt32.toUInt16.toUInt32.toInt32) :: S)))) : Wp p e below P (T.setTop (mkF m pc L (.int x :: S))) := by
  obtain ⟨hd, rfl⟩ := hd
  exact Wp.of (fun _ k => XS.i2c X.st.here X.hx rfl (X.hb hd) rfl k) K
theorem w_l2i (X : Sd Z n0 kk code ml own nm ret h p l e R s m args below meth c T locs cells slots) {x : Int64} (hd : Dc code pc (.l2i) 1 pc')  (K : Wp p e below P (T.setTop (mkF m pc' L (.int (x.toInt32) :: S)))) : Wp p e below P (T.setTop (mkF m pc L (.long x :: S))) := by
  obtain ⟨hd, rfl⟩ := hd
  exact Wp.of (fun _ k => XS.l2i X.st.here X.hx rfl (X.hb hd) rfl k) K
theorem w_lcmp (X : Sd Z n0 kk code ml own nm ret h p l e R s m args below meth c T locs cells slots) {x y : Int64} (hd : Dc code pc (.lcmp) 1 pc')  (K : Wp p e below P (T.setTop (mkF m pc' L (.int (lcmpW x y) :: S)))) : Wp p e below P (T.setTop (mkF m pc L (.long y :: .long x :: S))) := by
  obtain ⟨hd, rfl⟩ := hd
  exact Wp.of (fun _ k => XS.lcmp X.st.here X.hx rfl (X.hb hd) rfl k) K
theorem w_dup (X : Sd Z n0 kk code ml own nm ret h p l e R s m args below meth c T locs cells slots) {x : Value} (hd : Dc code pc (.dup) 1 pc') (hc : x.category = 1) (K : Wp p e below P (T.setTop (mkF m pc' L (x :: x :: S)))) : Wp p e below P (T.setTop (mkF m pc L (x :: S))) := by
  obtain ⟨hd, rfl⟩ := hd
  exact Wp.of (fun _ k => XS.dup X.st.here X.hx rfl (X.hb hd) rfl hc k) K
theorem w_dup2 (X : Sd Z n0 kk code ml own nm ret h p l e R s m args below meth c T locs cells slots) {x y : Value} (hd : Dc code pc (.dup2) 1 pc') (hc : x.category = 1) (hc' : y.category = 1) (K : Wp p e below P (T.setTop (mkF m pc' L (x :: y :: x :: y :: S)))) : Wp p e below P (T.setTop (mkF m pc L (x :: y :: S))) := by
  obtain ⟨hd, rfl⟩ := hd
  exact Wp.of (fun _ k => XT.dup2 X.st.here X.hx rfl (X.hb hd) rfl hc hc' k) K
theorem w_dup2L (X : Sd Z n0 kk code ml own nm ret h p l e R s m args below meth c T locs cells slots) {x : Int64} (hd : Dc code pc (.dup2) 1 pc')  (K : Wp p e below P (T.setTop (mkF m pc' L (.long x :: .long x :: S)))) : Wp p e below P (T.setTop (mkF m pc L (.long x :: S))) := by
  obtain ⟨hd, rfl⟩ := hd
  exact Wp.of (fun _ k => XT.dup2L X.st.here X.hx rfl (X.hb hd) rfl k) K
theorem w_dupX1 (X : Sd Z n0 kk code ml own nm ret h p l e R s m args below meth c T locs cells slots) {x y : Value} (hd : Dc code pc (.dup_x1) 1 pc') (hc : x.category = 1) (hc' : y.category = 1) (K : Wp p e below P (T.setTop (mkF m pc' L (x :: y :: x :: S)))) : Wp p e below P (T.setTop (mkF m pc L (x :: y :: S))) := by
  obtain ⟨hd, rfl⟩ := hd
  exact Wp.of (fun _ k => XS.dupX1 X.st.here X.hx rfl (X.hb hd) rfl hc hc' k) K
theorem w_pop (X : Sd Z n0 kk code ml own nm ret h p l e R s m args below meth c T locs cells slots) {x : Value} (hd : Dc code pc (.pop) 1 pc') (hc : x.category = 1) (K : Wp p e below P (T.setTop (mkF m pc' L S))) : Wp p e below P (T.setTop (mkF m pc L (x :: S))) := by
  obtain ⟨hd, rfl⟩ := hd
  exact Wp.of (fun _ k => XS.pop X.st.here X.hx rfl (X.hb hd) rfl hc k) K
theorem w_goto (X : Sd Z n0 kk code ml own nm ret h p l e R s m args below meth c T locs cells slots) {t : Nat} (hd : Bc code pc .goto t pc') (K : Wp p e below P (T.setTop (mkF m t L S))) : Wp p e below P (T.setTop (mkF m pc L S)) := by
  obtain ⟨o, hd, h1, h2, -⟩ := hd
  exact Wp.of (fun _ k => XS.goto X.st.here X.hx rfl (pc0 := pc) rfl (X.hb hd) h1 h2 k) K
theorem w_ifeq (X : Sd Z n0 kk code ml own nm ret h p l e R s m args below meth c T locs cells slots) {x : Int32} {t : Nat} (hd : Bc code pc (.ifCond .eq) t pc') (K1 : x = 0 → Wp p e below P (T.setTop (mkF m t L S))) (K2 : ¬ x = 0 → Wp p e below P (T.setTop (mkF m pc' L S))) : Wp p e below P (T.setTop (mkF m pc L (.int x :: S))) := by
  obtain ⟨o, hd, h1, h2, rfl⟩ := hd
  by_cases q : ifCond.holds .eq x = true
  · exact Wp.of (fun _ k => XS.ifYes X.st.here X.hx rfl (pc0 := pc) rfl (X.hb hd) rfl q h1 h2 k) (K1 (by simpa [ifCond.holds, Int32.not_lt] using q))
  · exact Wp.of (fun _ k => XS.ifNo X.st.here X.hx rfl (X.hb hd) rfl (by simpa using q) k) (K2 (by simpa [ifCond.holds, Int32.not_lt] using q))
theorem w_icmpeq (X : Sd Z n0 kk code ml own nm ret h p l e R s m args below meth c T locs cells slots) {x y : Int32} {t : Nat} (hd : Bc code pc (.if_icmp .eq) t pc') (K1 : x = y → Wp p e below P (T.setTop (mkF m t L S))) (K2 : ¬ x = y → Wp p e below P (T.setTop (mkF m pc' L S))) : Wp p e below P (T.setTop (mkF m pc L (.int y :: .int x :: S))) := by
  obtain ⟨o, hd, h1, h2, rfl⟩ := hd
  by_cases q : if_icmp.holds .eq x y = true
  · exact Wp.of (fun _ k => XS.icmpYes X.st.here X.hx rfl (pc0 := pc) rfl (X.hb hd) rfl q h1 h2 k) (K1 (by simpa [if_icmp.holds, Int32.not_lt] using q))
  · exact Wp.of (fun _ k => XS.icmpNo X.st.here X.hx rfl (X.hb hd) rfl (by simpa using q) k) (K2 (by simpa [if_icmp.holds, Int32.not_lt] using q))
theorem w_ifne (X : Sd Z n0 kk code ml own nm ret h p l e R s m args below meth c T locs cells slots) {x : Int32} {t : Nat} (hd : Bc code pc (.ifCond .ne) t pc') (K1 : ¬ x = 0 → Wp p e below P (T.setTop (mkF m t L S))) (K2 : x = 0 → Wp p e below P (T.setTop (mkF m pc' L S))) : Wp p e below P (T.setTop (mkF m pc L (.int x :: S))) := by
  obtain ⟨o, hd, h1, h2, rfl⟩ := hd
  by_cases q : ifCond.holds .ne x = true
  · exact Wp.of (fun _ k => XS.ifYes X.st.here X.hx rfl (pc0 := pc) rfl (X.hb hd) rfl q h1 h2 k) (K1 (by simpa [ifCond.holds, Int32.not_lt] using q))
  · exact Wp.of (fun _ k => XS.ifNo X.st.here X.hx rfl (X.hb hd) rfl (by simpa using q) k) (K2 (by simpa [ifCond.holds, Int32.not_lt] using q))
theorem w_icmpne (X : Sd Z n0 kk code ml own nm ret h p l e R s m args below meth c T locs cells slots) {x y : Int32} {t : Nat} (hd : Bc code pc (.if_icmp .ne) t pc') (K1 : ¬ x = y → Wp p e below P (T.setTop (mkF m t L S))) (K2 : x = y → Wp p e below P (T.setTop (mkF m pc' L S))) : Wp p e below P (T.setTop (mkF m pc L (.int y :: .int x :: S))) := by
  obtain ⟨o, hd, h1, h2, rfl⟩ := hd
  by_cases q : if_icmp.holds .ne x y = true
  · exact Wp.of (fun _ k => XS.icmpYes X.st.here X.hx rfl (pc0 := pc) rfl (X.hb hd) rfl q h1 h2 k) (K1 (by simpa [if_icmp.holds, Int32.not_lt] using q))
  · exact Wp.of (fun _ k => XS.icmpNo X.st.here X.hx rfl (X.hb hd) rfl (by simpa using q) k) (K2 (by simpa [if_icmp.holds, Int32.not_lt] using q))
theorem w_iflt (X : Sd Z n0 kk code ml own nm ret h p l e R s m args below meth c T locs cells slots) {x : Int32} {t : Nat} (hd : Bc code pc (.ifCond .lt) t pc') (K1 : x < 0 → Wp p e below P (T.setTop (mkF m t L S))) (K2 : ¬ x < 0 → Wp p e below P (T.setTop (mkF m pc' L S))) : Wp p e below P (T.setTop (mkF m pc L (.int x :: S))) := by
  obtain ⟨o, hd, h1, h2, rfl⟩ := hd
  by_cases q : ifCond.holds .lt x = true
  · exact Wp.of (fun _ k => XS.ifYes X.st.here X.hx rfl (pc0 := pc) rfl (X.hb hd) rfl q h1 h2 k) (K1 (by simpa [ifCond.holds, Int32.not_lt] using q))
  · exact Wp.of (fun _ k => XS.ifNo X.st.here X.hx rfl (X.hb hd) rfl (by simpa using q) k) (K2 (by simpa [ifCond.holds, Int32.not_lt] using q))
theorem w_icmplt (X : Sd Z n0 kk code ml own nm ret h p l e R s m args below meth c T locs cells slots) {x y : Int32} {t : Nat} (hd : Bc code pc (.if_icmp .lt) t pc') (K1 : x < y → Wp p e below P (T.setTop (mkF m t L S))) (K2 : ¬ x < y → Wp p e below P (T.setTop (mkF m pc' L S))) : Wp p e below P (T.setTop (mkF m pc L (.int y :: .int x :: S))) := by
  obtain ⟨o, hd, h1, h2, rfl⟩ := hd
  by_cases q : if_icmp.holds .lt x y = true
  · exact Wp.of (fun _ k => XS.icmpYes X.st.here X.hx rfl (pc0 := pc) rfl (X.hb hd) rfl q h1 h2 k) (K1 (by simpa [if_icmp.holds, Int32.not_lt] using q))
  · exact Wp.of (fun _ k => XS.icmpNo X.st.here X.hx rfl (X.hb hd) rfl (by simpa using q) k) (K2 (by simpa [if_icmp.holds, Int32.not_lt] using q))
theorem w_ifge (X : Sd Z n0 kk code ml own nm ret h p l e R s m args below meth c T locs cells slots) {x : Int32} {t : Nat} (hd : Bc code pc (.ifCond .ge) t pc') (K1 : ¬ x < 0 → Wp p e below P (T.setTop (mkF m t L S))) (K2 : x < 0 → Wp p e below P (T.setTop (mkF m pc' L S))) : Wp p e below P (T.setTop (mkF m pc L (.int x :: S))) := by
  obtain ⟨o, hd, h1, h2, rfl⟩ := hd
  by_cases q : ifCond.holds .ge x = true
  · exact Wp.of (fun _ k => XS.ifYes X.st.here X.hx rfl (pc0 := pc) rfl (X.hb hd) rfl q h1 h2 k) (K1 (by simpa [ifCond.holds, Int32.not_lt] using q))
  · exact Wp.of (fun _ k => XS.ifNo X.st.here X.hx rfl (X.hb hd) rfl (by simpa using q) k) (K2 (by simpa [ifCond.holds, Int32.not_lt] using q))
theorem w_icmpge (X : Sd Z n0 kk code ml own nm ret h p l e R s m args below meth c T locs cells slots) {x y : Int32} {t : Nat} (hd : Bc code pc (.if_icmp .ge) t pc') (K1 : ¬ x < y → Wp p e below P (T.setTop (mkF m t L S))) (K2 : x < y → Wp p e below P (T.setTop (mkF m pc' L S))) : Wp p e below P (T.setTop (mkF m pc L (.int y :: .int x :: S))) := by
  obtain ⟨o, hd, h1, h2, rfl⟩ := hd
  by_cases q : if_icmp.holds .ge x y = true
  · exact Wp.of (fun _ k => XS.icmpYes X.st.here X.hx rfl (pc0 := pc) rfl (X.hb hd) rfl q h1 h2 k) (K1 (by simpa [if_icmp.holds, Int32.not_lt] using q))
  · exact Wp.of (fun _ k => XS.icmpNo X.st.here X.hx rfl (X.hb hd) rfl (by simpa using q) k) (K2 (by simpa [if_icmp.holds, Int32.not_lt] using q))
theorem w_ifgt (X : Sd Z n0 kk code ml own nm ret h p l e R s m args below meth c T locs cells slots) {x : Int32} {t : Nat} (hd : Bc code pc (.ifCond .gt) t pc') (K1 : 0 < x → Wp p e below P (T.setTop (mkF m t L S))) (K2 : ¬ 0 < x → Wp p e below P (T.setTop (mkF m pc' L S))) : Wp p e below P (T.setTop (mkF m pc L (.int x :: S))) := by
  obtain ⟨o, hd, h1, h2, rfl⟩ := hd
  by_cases q : ifCond.holds .gt x = true
  · exact Wp.of (fun _ k => XS.ifYes X.st.here X.hx rfl (pc0 := pc) rfl (X.hb hd) rfl q h1 h2 k) (K1 (by simpa [ifCond.holds, Int32.not_lt] using q))
  · exact Wp.of (fun _ k => XS.ifNo X.st.here X.hx rfl (X.hb hd) rfl (by simpa using q) k) (K2 (by simpa [ifCond.holds, Int32.not_lt] using q))
theorem w_icmpgt (X : Sd Z n0 kk code ml own nm ret h p l e R s m args below meth c T locs cells slots) {x y : Int32} {t : Nat} (hd : Bc code pc (.if_icmp .gt) t pc') (K1 : y < x → Wp p e below P (T.setTop (mkF m t L S))) (K2 : ¬ y < x → Wp p e below P (T.setTop (mkF m pc' L S))) : Wp p e below P (T.setTop (mkF m pc L (.int y :: .int x :: S))) := by
  obtain ⟨o, hd, h1, h2, rfl⟩ := hd
  by_cases q : if_icmp.holds .gt x y = true
  · exact Wp.of (fun _ k => XS.icmpYes X.st.here X.hx rfl (pc0 := pc) rfl (X.hb hd) rfl q h1 h2 k) (K1 (by simpa [if_icmp.holds, Int32.not_lt] using q))
  · exact Wp.of (fun _ k => XS.icmpNo X.st.here X.hx rfl (X.hb hd) rfl (by simpa using q) k) (K2 (by simpa [if_icmp.holds, Int32.not_lt] using q))
theorem w_ifle (X : Sd Z n0 kk code ml own nm ret h p l e R s m args below meth c T locs cells slots) {x : Int32} {t : Nat} (hd : Bc code pc (.ifCond .le) t pc') (K1 : ¬ 0 < x → Wp p e below P (T.setTop (mkF m t L S))) (K2 : 0 < x → Wp p e below P (T.setTop (mkF m pc' L S))) : Wp p e below P (T.setTop (mkF m pc L (.int x :: S))) := by
  obtain ⟨o, hd, h1, h2, rfl⟩ := hd
  by_cases q : ifCond.holds .le x = true
  · exact Wp.of (fun _ k => XS.ifYes X.st.here X.hx rfl (pc0 := pc) rfl (X.hb hd) rfl q h1 h2 k) (K1 (by simpa [ifCond.holds, Int32.not_lt] using q))
  · exact Wp.of (fun _ k => XS.ifNo X.st.here X.hx rfl (X.hb hd) rfl (by simpa using q) k) (K2 (by simpa [ifCond.holds, Int32.not_lt] using q))
theorem w_icmple (X : Sd Z n0 kk code ml own nm ret h p l e R s m args below meth c T locs cells slots) {x y : Int32} {t : Nat} (hd : Bc code pc (.if_icmp .le) t pc') (K1 : ¬ y < x → Wp p e below P (T.setTop (mkF m t L S))) (K2 : y < x → Wp p e below P (T.setTop (mkF m pc' L S))) : Wp p e below P (T.setTop (mkF m pc L (.int y :: .int x :: S))) := by
  obtain ⟨o, hd, h1, h2, rfl⟩ := hd
  by_cases q : if_icmp.holds .le x y = true
  · exact Wp.of (fun _ k => XS.icmpYes X.st.here X.hx rfl (pc0 := pc) rfl (X.hb hd) rfl q h1 h2 k) (K1 (by simpa [if_icmp.holds, Int32.not_lt] using q))
  · exact Wp.of (fun _ k => XS.icmpNo X.st.here X.hx rfl (X.hb hd) rfl (by simpa using q) k) (K2 (by simpa [if_icmp.holds, Int32.not_lt] using q))
theorem own_lc (x y : Int64) : (lcmpW x y < 0 ↔ x < y) ∧ (0 < lcmpW x y ↔ y < x) ∧ (lcmpW x y = 0 ↔ x = y) := by rw [lcW]; exact ⟨lc_lt x y, lc_gt x y, lc_eq x y⟩
theorem w_leq (X : Sd Z n0 kk code ml own nm ret h p l e R s m args below meth c T locs cells slots) {x y : Int64} {t pc1 : Nat} (hd : Dc code pc .lcmp 1 pc1) (hd2 : Bc code pc1 (.ifCond .eq) t pc') (K1 : x = y → Wp p e below P (T.setTop (mkF m t L S))) (K2 : ¬ x = y → Wp p e below P (T.setTop (mkF m pc' L S))) : Wp p e below P (T.setTop (mkF m pc L (.long y :: .long x :: S))) :=
  w_lcmp X hd (w_ifeq X hd2 (fun q => K1 ((own_lc x y).2.2.mp q)) (fun q => K2 (fun r => q ((own_lc x y).2.2.mpr r))))
theorem w_lne (X : Sd Z n0 kk code ml own nm ret h p l e R s m args below meth c T locs cells slots) {x y : Int64} {t pc1 : Nat} (hd : Dc code pc .lcmp 1 pc1) (hd2 : Bc code pc1 (.ifCond .ne) t pc') (K1 : ¬ x = y → Wp p e below P (T.setTop (mkF m t L S))) (K2 : x = y → Wp p e below P (T.setTop (mkF m pc' L S))) : Wp p e below P (T.setTop (mkF m pc L (.long y :: .long x :: S))) :=
  w_lcmp X hd (w_ifne X hd2 (fun q => K1 (fun r => q ((own_lc x y).2.2.mpr r))) (fun q => K2 ((own_lc x y).2.2.mp q)))
theorem w_llt (X : Sd Z n0 kk code ml own nm ret h p l e R s m args below meth c T locs cells slots) {x y : Int64} {t pc1 : Nat} (hd : Dc code pc .lcmp 1 pc1) (hd2 : Bc code pc1 (.ifCond .lt) t pc') (K1 : x < y → Wp p e below P (T.setTop (mkF m t L S))) (K2 : ¬ x < y → Wp p e below P (T.setTop (mkF m pc' L S))) : Wp p e below P (T.setTop (mkF m pc L (.long y :: .long x :: S))) :=
  w_lcmp X hd (w_iflt X hd2 (fun q => K1 ((own_lc x y).1.mp q)) (fun q => K2 (fun r => q ((own_lc x y).1.mpr r))))
theorem w_lge (X : Sd Z n0 kk code ml own nm ret h p l e R s m args below meth c T locs cells slots) {x y : Int64} {t pc1 : Nat} (hd : Dc code pc .lcmp 1 pc1) (hd2 : Bc code pc1 (.ifCond .ge) t pc') (K1 : ¬ x < y → Wp p e below P (T.setTop (mkF m t L S))) (K2 : x < y → Wp p e below P (T.setTop (mkF m pc' L S))) : Wp p e below P (T.setTop (mkF m pc L (.long y :: .long x :: S))) :=
  w_lcmp X hd (w_ifge X hd2 (fun q => K1 (fun r => q ((own_lc x y).1.mpr r))) (fun q => K2 ((own_lc x y).1.mp q)))
theorem w_lgt (X : Sd Z n0 kk code ml own nm ret h p l e R s m args below meth c T locs cells slots) {x y : Int64} {t pc1 : Nat} (hd : Dc code pc .lcmp 1 pc1) (hd2 : Bc code pc1 (.ifCond .gt) t pc') (K1 : y < x → Wp p e below P (T.setTop (mkF m t L S))) (K2 : ¬ y < x → Wp p e below P (T.setTop (mkF m pc' L S))) : Wp p e below P (T.setTop (mkF m pc L (.long y :: .long x :: S))) :=
  w_lcmp X hd (w_ifgt X hd2 (fun q => K1 ((own_lc x y).2.1.mp q)) (fun q => K2 (fun r => q ((own_lc x y).2.1.mpr r))))
theorem w_lle (X : Sd Z n0 kk code ml own nm ret h p l e R s m args below meth c T locs cells slots) {x y : Int64} {t pc1 : Nat} (hd : Dc code pc .lcmp 1 pc1) (hd2 : Bc code pc1 (.ifCond .le) t pc') (K1 : ¬ y < x → Wp p e below P (T.setTop (mkF m t L S))) (K2 : y < x → Wp p e below P (T.setTop (mkF m pc' L S))) : Wp p e below P (T.setTop (mkF m pc L (.long y :: .long x :: S))) :=
  w_lcmp X hd (w_ifle X hd2 (fun q => K1 (fun r => q ((own_lc x y).2.1.mpr r))) (fun q => K2 ((own_lc x y).2.1.mp q)))
theorem w_ifnullT (X : Sd Z n0 kk code ml own nm ret h p l e R s m args below meth c T locs cells slots) {t : Nat} (hd : Bc code pc .ifnull t pc') (K : Wp p e below P (T.setTop (mkF m t L S))) : Wp p e below P (T.setTop (mkF m pc L (.null :: S))) := by
  obtain ⟨o, hd, h1, h2, -⟩ := hd
  exact Wp.of (fun _ k => XS.ifnullYes X.st.here X.hx rfl (pc0 := pc) rfl (X.hb hd) rfl h1 h2 k) K
theorem w_ifnullF (X : Sd Z n0 kk code ml own nm ret h p l e R s m args below meth c T locs cells slots) {t : Nat} {a : Addr} (hd : Bc code pc .ifnull t pc') (K : Wp p e below P (T.setTop (mkF m pc' L S))) : Wp p e below P (T.setTop (mkF m pc L (.ref a :: S))) := by
  obtain ⟨o, hd, h1, h2, rfl⟩ := hd
  exact Wp.of (fun _ k => XS.ifnullNo X.st.here X.hx rfl (X.hb hd) rfl k) K
theorem w_ifnonnullT (X : Sd Z n0 kk code ml own nm ret h p l e R s m args below meth c T locs cells slots) {t : Nat} {a : Addr} (hd : Bc code pc .ifnonnull t pc') (K : Wp p e below P (T.setTop (mkF m t L S))) : Wp p e below P (T.setTop (mkF m pc L (.ref a :: S))) := by
  obtain ⟨o, hd, h1, h2, -⟩ := hd
  exact Wp.of (fun _ k => XS.ifnonnullYes X.st.here X.hx rfl (pc0 := pc) rfl (X.hb hd) rfl h1 h2 k) K
theorem w_ifnonnullF (X : Sd Z n0 kk code ml own nm ret h p l e R s m args below meth c T locs cells slots) {t : Nat} (hd : Bc code pc .ifnonnull t pc') (K : Wp p e below P (T.setTop (mkF m pc' L S))) : Wp p e below P (T.setTop (mkF m pc L (.null :: S))) := by
  obtain ⟨o, hd, h1, h2, rfl⟩ := hd
  exact Wp.of (fun _ k => XS.ifnonnullNo X.st.here X.hx rfl (X.hb hd) rfl k) K
theorem w_acmpeq (X : Sd Z n0 kk code ml own nm ret h p l e R s m args below meth c T locs cells slots) {x y : Value} {t : Nat} (hx' : x.isRef = true) (hy' : y.isRef = true) (hd : Bc code pc (.if_acmp .eq) t pc') (K1 : x = y → Wp p e below P (T.setTop (mkF m t L S))) (K2 : ¬ x = y → Wp p e below P (T.setTop (mkF m pc' L S))) : Wp p e below P (T.setTop (mkF m pc L (y :: x :: S))) := by
  obtain ⟨o, hd, h1, h2, rfl⟩ := hd
  by_cases q : x = y
  · exact Wp.of (fun _ k => Jvm.RoadKit.acmp X.st X.hx rfl hx' hy' (pc0 := pc) (same := true) rfl (X.hb hd) rfl (decide_eq_true q) h1 (by simp [acV, h2]) k) (K1 q)
  · exact Wp.of (fun _ k => Jvm.RoadKit.acmp X.st X.hx rfl hx' hy' (pc0 := pc) (same := false) rfl (X.hb hd) rfl (decide_eq_false q) h1 (by simp [acV, h2]) k) (K2 q)
theorem w_acmpne (X : Sd Z n0 kk code ml own nm ret h p l e R s m args below meth c T locs cells slots) {x y : Value} {t : Nat} (hx' : x.isRef = true) (hy' : y.isRef = true) (hd : Bc code pc (.if_acmp .ne) t pc') (K1 : ¬ x = y → Wp p e below P (T.setTop (mkF m t L S))) (K2 : x = y → Wp p e below P (T.setTop (mkF m pc' L S))) : Wp p e below P (T.setTop (mkF m pc L (y :: x :: S))) := by
  obtain ⟨o, hd, h1, h2, rfl⟩ := hd
  by_cases q : x = y
  · exact Wp.of (fun _ k => Jvm.RoadKit.acmp X.st X.hx rfl hx' hy' (pc0 := pc) (same := true) rfl (X.hb hd) rfl (decide_eq_true q) h1 (by simp [acV, h2]) k) (K2 q)
  · exact Wp.of (fun _ k => Jvm.RoadKit.acmp X.st X.hx rfl hx' hy' (pc0 := pc) (same := false) rfl (X.hb hd) rfl (decide_eq_false q) h1 (by simp [acV, h2]) k) (K1 q)
theorem w_tsw (X : Sd Z n0 kk code ml own nm ret h p l e R s m args below meth c T locs cells slots) {dflt low high : Int} {offs : Array Int} {len : Nat} {o : Int} {t : Nat} {i : Int32} (hd : Dc code pc (.tableswitch dflt low high offs) len pc') (hin : ¬ (i.toInt < low ∨ i.toInt > high)) (hoff : offs[(i.toInt - low).toNat]? = some o) (ho : 0 ≤ (pc : Int) + o) (ht : ((pc : Int) + o).toNat = t) (K : Wp p e below P (T.setTop (mkF m t L S))) : Wp p e below P (T.setTop (mkF m pc L (.int i :: S))) := by
  obtain ⟨hd, -⟩ := hd
  exact Wp.of (fun _ k => XS.tswIn X.st.here X.hx rfl (pc0 := pc) rfl (X.hb hd) rfl hin hoff ho ht k) K
theorem w_ldcI (X : Sd Z n0 kk code ml own nm ret h p l e R s m args below meth c T locs cells slots) {i : Nat} {v : Int32} (hd : Dc code pc (.ldc i) 2 pc') (hw : (Cond.constant own i v).before a0 Z = true) (K : Wp p e below P (T.setTop (mkF m pc' L (.int v :: S)))) : Wp p e below P (T.setTop (mkF m pc L S)) := by
  obtain ⟨hd, rfl⟩ := hd
  exact Wp.of (fun _ k => X.st.ldcInt X.hx X.hown (mvT X.hZ hw) (g := mkF m pc L S) rfl (X.hb hd) _ k) K
theorem w_ldc2J (X : Sd Z n0 kk code ml own nm ret h p l e R s m args below meth c T locs cells slots) {i : Nat} {v : Int64} (hd : Dc code pc (.ldc2_w i) 3 pc') (hw : (Cond.constantLong own i v).before a0 Z = true) (K : Wp p e below P (T.setTop (mkF m pc' L (.long v :: S)))) : Wp p e below P (T.setTop (mkF m pc L S)) := by
  obtain ⟨hd, rfl⟩ := hd
  exact Wp.of (fun _ k => X.st.ldc2Long X.hx X.hown (mvT X.hZ hw) (g := mkF m pc L S) rfl (X.hb hd) _ k) K
end Steps
/-- what a contract says of the end -/
def Po (Z : State) (n0 : Nat) (s : State) (Q : Option Value → Heap → Prop) (ce sl : Nat) : State → Outcome → Prop := fun U o => ∃ v L, o = .returned v ∧ (Fr n0 L ∧ Old Z n0 U.heap ∧ s.heap.size ≤ U.heap.size ∧ Q v U.heap) ∧ FrameEnd s o U L ce sl
/-- called with these arguments at the heap h0, y returns and Q holds of what it returns and of the heap behind it -/
def Does (l : Launch) (Z : State) (n0 : Nat) (y : MethodName) (code : ByteArray) (ml : Nat) (ret : Option FieldType) (ws : List Cond) (rm : Room) (as' : Array Value) (h0 : Heap) (Q : Option Value → Heap → Prop) : Prop :=
  Old Z n0 h0 → MetFree l y (head1 (Cond.code y code ml ret :: ws) rm) (fun a U => a = as' ∧ Z.Warmed39 U.vm ∧ U.heap = h0) (fun _ _ _ _ _ => True) (fun _ U o U' => ∃ v L, o = .returned v ∧ (Fr n0 L ∧ Old Z n0 U'.heap ∧ h0.size ≤ U'.heap.size ∧ Q v U'.heap) ∧ FrameEnd U o U' L rm.cells rm.slots)
theorem Does.start {l : Launch} {Z : State} {n0 : Nat} {y : MethodName} {code : ByteArray} {ml : Nat} {ret : Option FieldType} {ws : List Cond} {rm : Room} {as' : Array Value} {h0 : Heap} {Q : Option Value → Heap → Prop} (hp : plainFor y = true)
    (body : ∀ p e s m below meth c s₁, Sd Z n0 0 code ml y.cls y.name ret h0 p l e rm s m as' below meth c s₁ [] 0 0 → Wp p e below (Po Z n0 s Q rm.cells rm.slots) (s₁.setTop (entryFrame m as' ml))) : Does l Z n0 y code ml ret ws rm as' h0 Q := by
  intro hold
  refine MetFree.of_bodySF hp hisR ?_
  intro p e s m args below meth c s₁ Bd hml0 hP hK
  obtain ⟨rfl, hZ, hh⟩ := hP
  have hh' := hh
  subst hh
  exact body p e s m below meth c s₁ ⟨Stand.of_body Bd, ⟨Bd.exec, Bd.bytes, hml0, findClass_of_methodNamed Bd.named, hZ, Bd.returns, (name_of_methodNamed Bd.named Bd.method).1, Bd.notSynchronized⟩, by rw [Bd.state]; rfl, Fr.nil n0, hold, Nat.zero_le _⟩
theorem Does.mono {l : Launch} {Z : State} {n0 : Nat} {y : MethodName} {code : ByteArray} {ml : Nat} {ret : Option FieldType} {ws : List Cond} {rm : Room} {as' : Array Value} {h0 : Heap} {Q Q' : Option Value → Heap → Prop} (D : Does l Z n0 y code ml ret ws rm as' h0 Q) (f : ∀ v h, Q v h → Q' v h) : Does l Z n0 y code ml ret ws rm as' h0 Q' := by
  intro hold p e ha hc hk s m args below hf happ hP hK
  obtain ⟨n, o, h1, h2, h3, v, L, e1, ⟨q1, q2, q2', q3⟩, q4⟩ := D hold p e ha hc hk s m args below hf happ hP hK
  exact ⟨n, o, h1, h2, h3, v, L, e1, ⟨q1, q2, q2', f _ _ q3⟩, q4⟩
section Steps2
variable {Z : State} {n0 kk : Nat} {code : ByteArray} {ml : Nat} {own nm : String} {ret : Option FieldType} {h : Heap} {p : Program} {l : Launch} {e : Env} {R : Room} {s : State} {m : MethodId} {args : Array Value} {below : List Frame} {meth : Method} {c : Code} {T : State} {locs : List Loc} {cells slots : Nat} {P : State → Outcome → Prop} {a0 : Array Value} {pc pc' : Nat} {L : Array Slot} {S : List Value} {Q : Option Value → Heap → Prop} {ce sl : Nat}
theorem Sd.done (X : Sd Z n0 kk code ml own nm ret h p l e R s m args below meth c T locs cells slots) {v : Option Value} (hv : ret = none → v = none) (hq : Q v h) (hc : cells ≤ ce) (hs : slots ≤ sl) {g : JFrame} (step : ∀ fs, (∀ (f : JFrame) (acts : List Action), f.method = m → f.locked = none → f.entered = [] → (doReturn e (T.setTop f) acts v).1 = T.setFrames fs) → Steps p.tables e below (T.setTop g) (T.setFrames fs)) : Wp p e below (Po Z n0 s Q ce sl) (T.setTop g) := by
  obtain ⟨fs, hr, hrun, hended, hW, hsame⟩ := X.st.leave (v := v) (fun q => hv (X.hret ▸ q)) X.hlk
  have e1 : (T.setFrames fs).heap = h := X.eh
  refine ⟨_, _, step fs hr, hrun, hended, v, locs, rfl, ⟨X.fr, ?_, X.st.same.2.1, ?_⟩, ⟨_, rfl⟩, hW, hsame.mono hc hs⟩
  · rw [e1]; exact X.old
  · rw [e1]; exact hq
theorem w_retI (X : Sd Z n0 kk code ml own nm (some .int) h p l e R s m args below meth c T locs cells slots) {z : Int32} (hd : Dc code pc .ireturn 1 pc') (hq : Q (some (.int z)) h) (hc : cells ≤ ce) (hs : slots ≤ sl) : Wp p e below (Po Z n0 s Q ce sl) (T.setTop (mkF m pc L (.int z :: S))) :=
  X.done nofun hq hc hs fun fs hr => retOut X.st X.hx X.hret rfl (Or.inl ⟨rfl, Or.inl rfl, z, rfl⟩) (X.hb hd.1) hr
theorem w_ret_boolean (X : Sd Z n0 kk code ml own nm (some .boolean) h p l e R s m args below meth c T locs cells slots) {z : Int32} (z' : Int32) (hz : nar .boolean z = z') (hd : Dc code pc .ireturn 1 pc') (hq : Q (some (.int z')) h) (hc : cells ≤ ce) (hs : slots ≤ sl) : Wp p e below (Po Z n0 s Q ce sl) (T.setTop (mkF m pc L (.int z :: S))) := by
  subst hz
  exact X.done nofun hq hc hs fun fs hr => retN X.st X.hx X.hret (by simp) (X.hb hd.1) hr
theorem w_ret_byte (X : Sd Z n0 kk code ml own nm (some .byte) h p l e R s m args below meth c T locs cells slots) {z : Int32} (z' : Int32) (hz : nar .byte z = z') (hd : Dc code pc .ireturn 1 pc') (hq : Q (some (.int z')) h) (hc : cells ≤ ce) (hs : slots ≤ sl) : Wp p e below (Po Z n0 s Q ce sl) (T.setTop (mkF m pc L (.int z :: S))) := by
  subst hz
  exact X.done nofun hq hc hs fun fs hr => retN X.st X.hx X.hret (by simp) (X.hb hd.1) hr
theorem w_ret_char (X : Sd Z n0 kk code ml own nm (some .char) h p l e R s m args below meth c T locs cells slots) {z : Int32} (z' : Int32) (hz : nar .char z = z') (hd : Dc code pc .ireturn 1 pc') (hq : Q (some (.int z')) h) (hc : cells ≤ ce) (hs : slots ≤ sl) : Wp p e below (Po Z n0 s Q ce sl) (T.setTop (mkF m pc L (.int z :: S))) := by
  subst hz
  exact X.done nofun hq hc hs fun fs hr => retN X.st X.hx X.hret (by simp) (X.hb hd.1) hr
theorem w_ret_short (X : Sd Z n0 kk code ml own nm (some .short) h p l e R s m args below meth c T locs cells slots) {z : Int32} (z' : Int32) (hz : nar .short z = z') (hd : Dc code pc .ireturn 1 pc') (hq : Q (some (.int z')) h) (hc : cells ≤ ce) (hs : slots ≤ sl) : Wp p e below (Po Z n0 s Q ce sl) (T.setTop (mkF m pc L (.int z :: S))) := by
  subst hz
  exact X.done nofun hq hc hs fun fs hr => retN X.st X.hx X.hret (by simp) (X.hb hd.1) hr
theorem w_retJ (X : Sd Z n0 kk code ml own nm (some .long) h p l e R s m args below meth c T locs cells slots) {z : Int64} (hd : Dc code pc .lreturn 1 pc') (hq : Q (some (.long z)) h) (hc : cells ≤ ce) (hs : slots ≤ sl) : Wp p e below (Po Z n0 s Q ce sl) (T.setTop (mkF m pc L (.long z :: S))) :=
  X.done nofun hq hc hs fun fs hr => retOut X.st X.hx X.hret rfl (Or.inr (Or.inl ⟨rfl, rfl, z, rfl⟩)) (X.hb hd.1) hr
theorem w_retR (X : Sd Z n0 kk code ml own nm ret h p l e R s m args below meth c T locs cells slots) {t : FieldType} {z : Value} (ht : t.isReference = true) (hz : z.isRef = true) (hret : ret = some t) (hd : Dc code pc .areturn 1 pc') (hq : Q (some z) h) (hc : cells ≤ ce) (hs : slots ≤ sl) : Wp p e below (Po Z n0 s Q ce sl) (T.setTop (mkF m pc L (z :: S))) := by
  subst hret
  exact X.done nofun hq hc hs fun fs hr => retOut X.st X.hx X.hret (by rcases ref_cases hz with rfl | ⟨z, rfl⟩ <;> cases t <;> first | rfl | cases ht) (Or.inr (Or.inr (Or.inr (Or.inr ⟨rfl, ht, hz⟩)))) (X.hb hd.1) hr
theorem w_retV (X : Sd Z n0 kk code ml own nm (none) h p l e R s m args below meth c T locs cells slots) (hd : Dc code pc .return_ 1 pc') (hq : Q none h) (hc : cells ≤ ce) (hs : slots ≤ sl) : Wp p e below (Po Z n0 s Q ce sl) (T.setTop (mkF m pc L [])) :=
  X.done (fun _ => rfl) hq hc hs fun fs hr => X.st.returnOut X.hx X.hret (X.hb hd.1) hr
theorem w_getF (X : Sd Z n0 kk code ml own nm ret h p l e R s m args below meth c T locs cells slots) {R0 O n d host : String} {index : Nat} {a : Addr} {v : Value} (hd : Dc code pc (.getfield index) 3 pc') (w : (Cond.fieldLink own index R0 n d).before a0 Z = true ∨ (Cond.fieldLinkNest own index R0 n d host).before a0 Z = true) (via : Via Z R0 O n d) (F : Fld Z h a O n d v) (K : ∀ T', Sd Z n0 kk code ml own nm ret h p l e R s m args below meth c T' locs cells slots → Wp p e below P (T'.setTop (mkF m pc' L (v :: S)))) : Wp p e below P (T.setTop (mkF m pc L (.ref a :: S))) := by
  obtain ⟨hd, rfl⟩ := hd
  obtain ⟨T', X', e', st⟩ := getF X.st X.hx X.hZ X.hown w via X.eh F (g := mkF m pc L (.ref a :: S)) rfl rfl (X.hb hd)
  exact Wp.of st (K T' (X.mk' X' e' X.fr X.old (Nat.le_refl _)))
theorem w_getS (X : Sd Z n0 kk code ml own nm ret h p l e R s m args below meth c T locs cells slots) {R0 O n d host : String} {index : Nat} {v : Value} (hd : Dc code pc (.getstatic index) 3 pc') (w : (Cond.fieldLink own index R0 n d).before a0 Z = true ∨ (Cond.fieldLinkNest own index R0 n d host).before a0 Z = true) (via : Via Z R0 O n d) (F : Sta Z h O n d v) (K : ∀ T', Sd Z n0 kk code ml own nm ret h p l e R s m args below meth c T' locs cells slots → Wp p e below P (T'.setTop (mkF m pc' L (v :: S)))) : Wp p e below P (T.setTop (mkF m pc L S)) := by
  obtain ⟨hd, rfl⟩ := hd
  obtain ⟨T', X', e', st⟩ := getS2 X.st X.hx X.hZ X.hown w via X.eh F (g := mkF m pc L S) rfl (X.hb hd)
  exact Wp.of st (K T' (X.mk' X' e' X.fr X.old (Nat.le_refl _)))
theorem w_putF (X : Sd Z n0 kk code ml own nm ret h p l e R s m args below meth c T locs cells slots) {R0 O n d host C : String} {index ni : Nat} {ty : FieldType} {a : Addr} {v old : Value} (hd : Dc code pc (.putfield index) 3 pc')  (w : (Cond.fieldLink own index R0 n d).before a0 Z = true ∨ (Cond.fieldLinkNest own index R0 n d host).before a0 Z = true) (via : Via Z R0 O n d) (F : Fld Z h a O n d old) (E : Exa Z h a C) (L0 : (Cond.lays C O n d).before a0 Z = true ∨ ((Cond.laysFinal C O n d).before a0 Z = true ∧ own = O ∧ nm = "<init>")) (wi : (Cond.instantiable C ni).before a0 Z = true) (hty : parseFieldDescriptor d = some ty) (hn : narrow ty v = v) (hf : fits ty v = true) (ga : n0 ≤ a) (K : ∀ T' h', Sd Z n0 kk code ml own nm ret h' p l e R s m args below meth c T' (locs ++ [⟨a, slotOf Z O n d⟩]) cells slots → Wr h h' a (slotOf Z O n d) v → Wp p e below P (T'.setTop (mkF m pc' L S))) : Wp p e below P (T.setTop (mkF m pc L (v :: .ref a :: S))) := by
  obtain ⟨hd, rfl⟩ := hd
  obtain ⟨T', h', X', e', W, st⟩ := putF X.st X.hx X.hZ X.hown w via X.eh F E (L0.imp id fun q => ⟨q.1, q.2.1, X.hnm.trans q.2.2⟩) wi hty hn hf (g := mkF m pc L (v :: .ref a :: S)) rfl rfl (X.hb hd)
  exact Wp.of st (K T' h' (X.mk' X' e' (Fr.snoc X' X.fr ga) (X.old.wr W ga) (Nat.le_of_eq W.size.symm)) W)
theorem w_putFN (X : Sd Z n0 kk code ml own nm ret h p l e R s m args below meth c T locs cells slots) {R0 O n d C : String} {index ni : Nat} {ty : FieldType} {a : Addr} {v old : Value} (hd : Dc code pc (.putfield index) 3 pc')  (w : (Cond.fieldLink own index R0 n d).before a0 Z = true) (via : Via Z R0 O n d) (F : Fld Z h a O n d old) (E : Exa Z h a C) (L0 : (Cond.lays C O n d).before a0 Z = true ∨ ((Cond.laysFinal C O n d).before a0 Z = true ∧ own = O ∧ nm = "<init>")) (wi : (Cond.instantiable C ni).before a0 Z = true) (hty : parseFieldDescriptor d = some ty) (v' : Value) (hn : narrow ty v = v') (hf : fits ty v' = true) (ga : n0 ≤ a) (K : ∀ T' h', Sd Z n0 kk code ml own nm ret h' p l e R s m args below meth c T' (locs ++ [⟨a, slotOf Z O n d⟩]) cells slots → Wr h h' a (slotOf Z O n d) v' → Wp p e below P (T'.setTop (mkF m pc' L S))) : Wp p e below P (T.setTop (mkF m pc L (v :: .ref a :: S))) := by
  obtain ⟨hd, rfl⟩ := hd
  obtain ⟨T', h', X', e', W, st⟩ := putFN X.st X.hx X.hZ X.hown w via X.eh F E (L0.imp id fun q => ⟨q.1, q.2.1, X.hnm.trans q.2.2⟩) wi hty hn hf (g := mkF m pc L (v :: .ref a :: S)) rfl rfl (X.hb hd)
  exact Wp.of st (K T' h' (X.mk' X' e' (Fr.snoc X' X.fr ga) (X.old.wr W ga) (Nat.le_of_eq W.size.symm)) W)
theorem w_new (X : Sd Z n0 kk code ml own nm ret h p l e R s m args below meth c T locs cells slots) {C : String} {index n : Nat} (hd : Dc code pc (.new index) 3 pc') (w1 : (Cond.classLink own index C).before a0 Z = true) (wi : (Cond.instantiable C n).before a0 Z = true) (wz : (Cond.initialized C).before a0 Z = true) (hc : cells + 1 ≤ R.cells) (hl : slots + n ≤ R.slots) (K : ∀ T' h' b, b = h.size → n0 ≤ b → Sd Z n0 kk code ml own nm ret h' p l e R s m args below meth c T' locs (cells + 1) (slots + n) → Ext h h' → Exa Z h' b C → (∀ {O nm' d : String} {ty : FieldType}, Laid Z a0 C O nm' d → parseFieldDescriptor d = some ty → Fld Z h' b O nm' d (defaultValue ty)) → Wp p e below P (T'.setTop (mkF m pc' L (.ref b :: S)))) : Wp p e below P (T.setTop (mkF m pc L S)) := by
  obtain ⟨hd, rfl⟩ := hd
  obtain ⟨T', h', X', e', E, A, D, -, st⟩ := newO X.st X.hx X.hZ X.hown w1 wi wz X.eh (g := mkF m pc L S) rfl (X.hb hd) hc hl
  exact Wp.of st (K T' h' _ rfl (X.old.1 ▸ X.old.2.1) (X.mk' X' e' X.fr (X.old.ext E) E.1) E A D)
theorem w_initO (X : Sd Z n0 kk code ml own nm ret h p l e R s m args below meth c T locs cells slots) {index : Nat} {a : Addr} (hd : Dc code pc (.invokespecial index) 3 pc') (w1 : (Cond.methodLink own index Lib.objectInit).before a0 Z = true) (w2 : (Cond.instanceMethod Lib.objectInit).before a0 Z = true) (w3 : (Cond.code Lib.objectInit ⟨#[0xb1]⟩ 1 none).before a0 Z = true) (hsz : L.size = ml) (hf : 1 ≤ R.frames) (hl : (S.map fun v => v.category).sum + 12 ≤ R.locals) (K : ∀ T', Sd Z n0 kk code ml own nm ret h p l e R s m args below meth c T' locs cells slots → Wp p e below P (T'.setTop (mkF m pc' L S))) : Wp p e below P (T.setTop (mkF m pc L (.ref a :: S))) := by
  obtain ⟨hd, rfl⟩ := hd
  obtain ⟨T', X', e', st⟩ := initO X.st X.hx X.hZ X.hown w1 w2 w3 X.eh (g := mkF m pc L (.ref a :: S)) rfl (by rw [X.hml]; exact hsz) rfl (X.hb hd) hf (W := (S.map fun v => v.category).sum) (by show 2 * 0 + _ ≤ _; omega) hl
  exact Wp.of st (K T' (X.mk' X' e' X.fr X.old (Nat.le_refl _)))
theorem w_callS (X : Sd Z n0 kk code ml own nm ret h p l e R s m args below meth c T locs cells slots) {y : MethodName} {bytes : ByteArray} {maxL : Nat} {ret' : Option FieldType} {rm : Room} {index : Nat} {Q' : Option Value → Heap → Prop} {ps : List FieldType} {rr : Option FieldType} {stk : List Value} (hd : Dc code pc (.invokestatic index) 3 pc') (w1 : (Cond.methodLink own index y).before a0 Z = true) (w2 : (Cond.static y).before a0 Z = true) (w3 : (Cond.initialized y.cls).before a0 Z = true) (w4 : (Cond.code y bytes maxL ret').before a0 Z = true) (hy : y.cls ≠ "java/lang/invoke/MethodHandle" ∧ y.cls ≠ "java/lang/invoke/VarHandle") {argsL : List Value} (D : Does l Z n0 y bytes maxL ret' [] rm argsL.toArray h Q') (hpd : parseMethodDescriptor y.desc = some ⟨ps, rr⟩) (hlen : argsL.length = ps.length) (hst : stk = argsL.reverse ++ S) (hsz : L.size = ml) (hf : rm.frames + 1 ≤ R.frames) (hl : (S.map fun v => v.category).sum + (maxL + 11) + rm.locals ≤ R.locals) (hc : cells + rm.cells ≤ R.cells) (hs : slots + rm.slots ≤ R.slots) (K : ∀ T' h' v L', Sd Z n0 kk code ml own nm ret h' p l e R s m args below meth c T' (locs ++ L') (cells + rm.cells) (slots + rm.slots) → Q' v h' → Wp p e below P (T'.setTop (mkF m pc' L (v.toList ++ S)))) : Wp p e below P (T.setTop (mkF m pc L stk)) := by
  obtain ⟨hd, rfl⟩ := hd
  obtain ⟨v, vm1, ⟨T', L1, k1, n1⟩, -, X', ⟨Lc, hQ, l1, y1, z1⟩, st⟩ := Jvm.LawKit.callS X.st X.hx X.hown (mvT X.hZ w1) (mvT X.hZ w2) (mvT X.hZ w3) (mvT X.hZ w4) hy (backOf (Q := fun v h' L => Fr n0 L ∧ Old Z n0 h' ∧ h.size ≤ h'.size ∧ Q' v h') (W := (S.map fun v => v.category).sum) (D X.old) X.hZ w4 w3 hf hl) (g := mkF m pc L stk) rfl (by rw [X.hml]; exact hsz) (argsL := argsL) (rest := S) (lenOf hpd hlen) hst (by show 2 * 0 + _ ≤ _; omega) (X.hb hd) (fun _ _ => ⟨rfl, X.eh, hc, hs⟩)
  dsimp only [Pt.U, Pt.locs, Pt.cells, Pt.slots] at X' l1 y1 z1 st hQ
  subst l1 y1 z1
  exact Wp.of st (K T' _ v Lc (X.mk' X' rfl (X.fr.app hQ.1) hQ.2.1 hQ.2.2.1) hQ.2.2.2)
theorem w_callI (X : Sd Z n0 kk code ml own nm ret h p l e R s m args below meth c T locs cells slots) {y : MethodName} {bytes : ByteArray} {maxL : Nat} {rm : Room} {index : Nat} {Q' : Option Value → Heap → Prop} {ps : List FieldType} {rr : Option FieldType} {stk : List Value} (hd : Dc code pc (.invokespecial index) 3 pc') (hi : y.name = "<init>") (w1 : (Cond.methodLink own index y).before a0 Z = true) (w2 : (Cond.instanceMethod y).before a0 Z = true) (w3 : (Cond.initialized y.cls).before a0 Z = true) (w4 : (Cond.code y bytes maxL none).before a0 Z = true) (hy : y.cls ≠ "java/lang/invoke/MethodHandle" ∧ y.cls ≠ "java/lang/invoke/VarHandle") {a : Addr} {argsL : List Value} (D : Does l Z n0 y bytes maxL none [] rm (.ref a :: argsL).toArray h Q') (hpd : parseMethodDescriptor y.desc = some ⟨ps, rr⟩) (hlen : argsL.length = ps.length) (hst : stk = argsL.reverse ++ .ref a :: S) (hsz : L.size = ml) (hf : rm.frames + 1 ≤ R.frames) (hl : (S.map fun v => v.category).sum + (maxL + 11) + rm.locals ≤ R.locals) (hc : cells + rm.cells ≤ R.cells) (hs : slots + rm.slots ≤ R.slots) (K : ∀ T' h' v L', Sd Z n0 kk code ml own nm ret h' p l e R s m args below meth c T' (locs ++ L') (cells + rm.cells) (slots + rm.slots) → Q' v h' → Wp p e below P (T'.setTop (mkF m pc' L (v.toList ++ S)))) : Wp p e below P (T.setTop (mkF m pc L stk)) := by
  obtain ⟨hd, rfl⟩ := hd
  obtain ⟨v, vm1, ⟨T', L1, k1, n1⟩, -, X', ⟨Lc, hQ, l1, y1, z1⟩, st⟩ := X.st.specialBack X.hx hi X.hown (mvT X.hZ w1) (mvT X.hZ w2) (mvT X.hZ w4) hy (backOf (Q := fun v h' L => Fr n0 L ∧ Old Z n0 h' ∧ h.size ≤ h'.size ∧ Q' v h') (W := (S.map fun v => v.category).sum) (D X.old) X.hZ w4 w3 hf hl) (g := mkF m pc L stk) rfl (by rw [X.hml]; exact hsz) (Steps.refl _) (a := a) (argsL := argsL) (rest := S) (lenOf hpd hlen) hst (by show 2 * 0 + _ ≤ _; omega) (X.hb hd) (fun _ _ => ⟨rfl, X.eh, hc, hs⟩)
  dsimp only [Pt.U, Pt.locs, Pt.cells, Pt.slots] at X' l1 y1 z1 st hQ
  subst l1 y1 z1
  exact Wp.tr st (K T' _ v Lc (X.mk' X' rfl (X.fr.app hQ.1) hQ.2.1 hQ.2.2.1) hQ.2.2.2)
theorem w_callV (X : Sd Z n0 kk code ml own nm ret h p l e R s m args below meth c T locs cells slots) {y : MethodName} {bytes : ByteArray} {maxL : Nat} {ret' : Option FieldType} {rm : Room} {index : Nat} {Q' : Option Value → Heap → Prop} {ps : List FieldType} {rr : Option FieldType} {stk : List Value} {z : MethodName} {C : String} (hd : Dc code pc (.invokevirtual index) 3 pc') (w1 : (Cond.methodLink own index y).before a0 Z = true) (wd : (Cond.declares y).before a0 Z = true) (hnf : NotFace s y) (ws : (Cond.selects C y z).before a0 Z = true) (w2 : (Cond.instanceMethod z).before a0 Z = true) (w3 : (Cond.initialized z.cls).before a0 Z = true) (w4 : (Cond.code z bytes maxL ret').before a0 Z = true) (hy : y.cls ≠ "java/lang/invoke/MethodHandle" ∧ y.cls ≠ "java/lang/invoke/VarHandle") {a : Addr} (E : Exa Z h a C) {argsL : List Value} (D : Does l Z n0 z bytes maxL ret' [] rm (.ref a :: argsL).toArray h Q') (hpd : parseMethodDescriptor y.desc = some ⟨ps, rr⟩) (hlen : argsL.length = ps.length) (hst : stk = argsL.reverse ++ .ref a :: S) (hsz : L.size = ml) (hf : rm.frames + 1 ≤ R.frames) (hl : (S.map fun v => v.category).sum + (maxL + 11) + rm.locals ≤ R.locals) (hc : cells + rm.cells ≤ R.cells) (hs : slots + rm.slots ≤ R.slots) (K : ∀ T' h' v L', Sd Z n0 kk code ml own nm ret h' p l e R s m args below meth c T' (locs ++ L') (cells + rm.cells) (slots + rm.slots) → Q' v h' → Wp p e below P (T'.setTop (mkF m pc' L (v.toList ++ S)))) : Wp p e below P (T.setTop (mkF m pc L stk)) := by
  obtain ⟨hd, rfl⟩ := hd
  obtain ⟨cq, kq, qa, qb, qc⟩ := isOf X.hZ X.eh E
  obtain ⟨v, vm1, ⟨T', L1, k1, n1⟩, -, X', ⟨Lc, hQ, l1, y1, z1⟩, st⟩ := X.st.virtualBack X.hx X.hown (mvT X.hZ w1) (mvT X.hZ wd) hnf (mvT X.hZ ws) (mvT X.hZ w2) hy (backOf (Q := fun v h' L => Fr n0 L ∧ Old Z n0 h' ∧ h.size ≤ h'.size ∧ Q' v h') (W := (S.map fun v => v.category).sum) (D X.old) X.hZ w4 w3 hf hl) qa qc (g := mkF m pc L stk) rfl (by rw [X.hml]; exact hsz) (Steps.refl _) (argsL := argsL) (rest := S) (lenOf hpd hlen) hst (by show 2 * 0 + _ ≤ _; omega) (X.hb hd) (fun _ _ => ⟨rfl, X.eh, hc, hs⟩)
  dsimp only [Pt.U, Pt.locs, Pt.cells, Pt.slots] at X' l1 y1 z1 st hQ
  subst l1 y1 z1
  exact Wp.tr st (K T' _ v Lc (X.mk' X' rfl (X.fr.app hQ.1) hQ.2.1 hQ.2.2.1) hQ.2.2.2)
theorem w_callP (X : Sd Z n0 kk code ml own nm ret h p l e R s m args below meth c T locs cells slots) {y : MethodName} {bytes : ByteArray} {maxL : Nat} {ret' : Option FieldType} {rm : Room} {index : Nat} {Q' : Option Value → Heap → Prop} {ps : List FieldType} {rr : Option FieldType} {stk : List Value} (hd : Dc code pc (.invokevirtual index) 3 pc') (w1 : (Cond.methodLink own index y).before a0 Z = true) (w2 : (Cond.instanceMethod y).before a0 Z = true) (ws : (Cond.selects y.cls y y).before a0 Z = true) (wp : (Cond.privateMethod y).before a0 Z = true) (w3 : (Cond.initialized y.cls).before a0 Z = true) (w4 : (Cond.code y bytes maxL ret').before a0 Z = true) (hy : y.cls ≠ "java/lang/invoke/MethodHandle" ∧ y.cls ≠ "java/lang/invoke/VarHandle") {a : Addr} {C : String} (E : Exa Z h a C) {argsL : List Value} (D : Does l Z n0 y bytes maxL ret' [] rm (.ref a :: argsL).toArray h Q') (hpd : parseMethodDescriptor y.desc = some ⟨ps, rr⟩) (hlen : argsL.length = ps.length) (hst : stk = argsL.reverse ++ .ref a :: S) (hsz : L.size = ml) (hf : rm.frames + 1 ≤ R.frames) (hl : (S.map fun v => v.category).sum + (maxL + 11) + rm.locals ≤ R.locals) (hc : cells + rm.cells ≤ R.cells) (hs : slots + rm.slots ≤ R.slots) (K : ∀ T' h' v L', Sd Z n0 kk code ml own nm ret h' p l e R s m args below meth c T' (locs ++ L') (cells + rm.cells) (slots + rm.slots) → Q' v h' → Wp p e below P (T'.setTop (mkF m pc' L (v.toList ++ S)))) : Wp p e below P (T.setTop (mkF m pc L stk)) := by
  obtain ⟨hd, rfl⟩ := hd
  obtain ⟨cq, qa, qb⟩ := E.cell
  obtain ⟨v, vm1, ⟨T', L1, k1, n1⟩, -, X', ⟨Lc, hQ, l1, y1, z1⟩, st⟩ := X.st.privateBack X.hx X.hown (mvT X.hZ w1) (mvT X.hZ w2) (mvT X.hZ ws) (Cond.privateMethod_at (mvP X.hZ wp (args := #[]))) (mvT X.hZ w4) hy (backOf (Q := fun v h' L => Fr n0 L ∧ Old Z n0 h' ∧ h.size ≤ h'.size ∧ Q' v h') (W := (S.map fun v => v.category).sum) (D X.old) X.hZ w4 w3 hf hl) (g := mkF m pc L stk) rfl (by rw [X.hml]; exact hsz) (Steps.refl _) (a := a) (by rw [X.eh]; exact qa) qb (argsL := argsL) (rest := S) (lenOf hpd hlen) hst (by show 2 * 0 + _ ≤ _; omega) (X.hb hd) (fun _ _ => ⟨rfl, X.eh, hc, hs⟩)
  dsimp only [Pt.U, Pt.locs, Pt.cells, Pt.slots] at X' l1 y1 z1 st hQ
  subst l1 y1 z1
  exact Wp.tr st (K T' _ v Lc (X.mk' X' rfl (X.fr.app hQ.1) hQ.2.1 hQ.2.2.1) hQ.2.2.2)
theorem w_callU (X : Sd Z n0 kk code ml own nm ret h p l e R s m args below meth c T locs cells slots) {y : MethodName} {bytes : ByteArray} {maxL : Nat} {ret' : Option FieldType} {rm : Room} {index : Nat} {Q' : Option Value → Heap → Prop} {ps : List FieldType} {rr : Option FieldType} {stk : List Value} {z : MethodName} {C owner : String} (hd : Dc code pc (.invokevirtual index) 3 pc') (w1 : (Cond.methodLink own index y).before a0 Z = true) (wsm : (Cond.sameMethod y.cls owner y.name y.desc).before a0 Z = true) (wd : (Cond.declares ⟨owner, y.name, y.desc⟩).before a0 Z = true) (ho : owner ≠ "java/lang/invoke/MethodHandle" ∧ owner ≠ "java/lang/invoke/VarHandle") (ws : (Cond.selects C y z).before a0 Z = true) (w2 : (Cond.instanceMethod z).before a0 Z = true) (w3 : (Cond.initialized z.cls).before a0 Z = true) (w4 : (Cond.code z bytes maxL ret').before a0 Z = true) {a : Addr} (E : Exa Z h a C) {argsL : List Value} (D : Does l Z n0 z bytes maxL ret' [] rm (.ref a :: argsL).toArray h Q') (hpd : parseMethodDescriptor y.desc = some ⟨ps, rr⟩) (hlen : argsL.length = ps.length) (hst : stk = argsL.reverse ++ .ref a :: S) (hsz : L.size = ml) (hf : rm.frames + 1 ≤ R.frames) (hl : (S.map fun v => v.category).sum + (maxL + 11) + rm.locals ≤ R.locals) (hc : cells + rm.cells ≤ R.cells) (hs : slots + rm.slots ≤ R.slots) (K : ∀ T' h' v L', Sd Z n0 kk code ml own nm ret h' p l e R s m args below meth c T' (locs ++ L') (cells + rm.cells) (slots + rm.slots) → Q' v h' → Wp p e below P (T'.setTop (mkF m pc' L (v.toList ++ S)))) : Wp p e below P (T.setTop (mkF m pc L stk)) := by
  obtain ⟨hd, rfl⟩ := hd
  obtain ⟨cq, kq, qa, qb, qc⟩ := isOf X.hZ X.eh E
  obtain ⟨v, vm1, ⟨T', L1, k1, n1⟩, -, X', ⟨Lc, hQ, l1, y1, z1⟩, st⟩ := X.st.virtualBackUp X.hx X.hown (mvT X.hZ w1) (mvT X.hZ wsm) (mvT X.hZ wd) ho (mvT X.hZ ws) (mvT X.hZ w2) (backOf (Q := fun v h' L => Fr n0 L ∧ Old Z n0 h' ∧ h.size ≤ h'.size ∧ Q' v h') (W := (S.map fun v => v.category).sum) (D X.old) X.hZ w4 w3 hf hl) qa qc (g := mkF m pc L stk) rfl (by rw [X.hml]; exact hsz) (Steps.refl _) (argsL := argsL) (rest := S) (lenOf hpd hlen) hst (by show 2 * 0 + _ ≤ _; omega) (X.hb hd) (fun _ _ => ⟨rfl, X.eh, hc, hs⟩)
  dsimp only [Pt.U, Pt.locs, Pt.cells, Pt.slots] at X' l1 y1 z1 st hQ
  subst l1 y1 z1
  exact Wp.tr st (K T' _ v Lc (X.mk' X' rfl (X.fr.app hQ.1) hQ.2.1 hQ.2.2.1) hQ.2.2.2)
end Steps2
end Jvm.RoadKit
namespace Jvm.RoadKit
open Sem ClassFile Op Lib Jvm.Stand Jvm.Free Jvm.LawKit
/-- at a lies an array of component type ty that holds just these values -/
def Ary (Z : State) (h : Heap) (a : Addr) (ty : FieldType) (vs : List Value) : Prop := ∃ c : Cell, Arr Z h a c ty ∧ c.slots = vs.toArray ∧ vs.length < 2 ^ 31 ∧ ∀ v ∈ vs, fits ty v = true
section Ary
variable {Z : State} {h h' : Heap} {a b : Addr} {ty : FieldType} {vs : List Value} {sl : Nat} {v : Value} {ws : List Addr}
theorem Ary.lt (A : Ary Z h a ty vs) : a < h.size := by obtain ⟨c, A, -⟩ := A; exact A.lt
theorem Ary.ext (A : Ary Z h a ty vs) (E : Ext h h') : Ary Z h' a ty vs := by obtain ⟨c, A, r⟩ := A; exact ⟨c, A.ext E, r⟩
theorem Ary.other (A : Ary Z h b ty vs) (W : Wr h h' a sl v) (q : b ≠ a) : Ary Z h' b ty vs := by obtain ⟨c, A, r⟩ := A; exact ⟨c, A.other W q, r⟩
theorem Ary.keep (A : Ary Z h a ty vs) (K : Keep h h' ws) (q : a ∉ ws) : Ary Z h' a ty vs := by obtain ⟨c, A, r⟩ := A; exact ⟨c, ⟨K.2.1 a c A.1 q, A.2⟩, r⟩
theorem Ary.set (A : Ary Z h a ty vs) {j : Nat} (hf : fits ty v = true) (W : Wr h h' a j v) : Ary Z h' a ty (vs.set j v) := by
  obtain ⟨c, A, e, l, f⟩ := A
  refine ⟨c.setSlot j v, A.same W, ?_, by rw [List.length_set]; exact l, fun u hu => ?_⟩
  · show c.slots.setIfInBounds j v = _
    rw [e]; simp
  · rcases List.mem_or_eq_of_mem_set hu with q | rfl
    · exact f _ q
    · exact hf
theorem Ary.size {c : Cell} (e : c.slots = vs.toArray) : c.slots.size = vs.length := by rw [e]; simp
theorem own_inb {c : Cell} {j : Int32} (e : c.slots = vs.toArray) (hj : ¬ j < 0) (hv : vs[j.toNatClampNeg]? = some v) : ¬ (j < 0 ∨ c.slots.size ≤ j.toNatClampNeg) := by
  rw [Ary.size e]
  have := (List.getElem?_eq_some_iff.mp hv).1
  rintro (q | q)
  · exact hj q
  · omega
theorem own_at {c : Cell} {j : Nat} (e : c.slots = vs.toArray) (hv : vs[j]? = some v) : c.slots[j]? = some v := by rw [e]; simpa using hv
theorem Ary.new {cA : ClassId} {n : Int32} {k : Nat} (A : Arr Z h a (newA cA ty n) ty) (hk : n.toNatClampNeg = k) (hd : fits ty (defaultValue ty) = true) : Ary Z h a ty (List.replicate k (defaultValue ty)) := by
  refine ⟨_, A, ?_, ?_, fun v hv => by rw [(List.mem_replicate.mp hv).2]; exact hd⟩
  · show Array.replicate n.toNatClampNeg (defaultValue ty) = _
    rw [hk]; simp
  · rw [List.length_replicate, ← hk]; have := Int32.toInt_lt n; simp only [Int32.toNatClampNeg]; omega
/-- the kit's form of the same, and back -/
theorem Ary.arv (A : Ary Z h a ty vs) {z : Int32} {d : Value} (hz : ¬ z < 0) (hl : z.toNatClampNeg = vs.length) : ∃ k, Arv Z h a k ty z vs d := by
  obtain ⟨c, A, e, l, f⟩ := A
  have hs := Ary.size e
  have g : ∀ i, i < c.slots.size → vs[i]? = some (vs.getD i d) := fun i hi => by
    rw [hs] at hi; simp [List.getD_eq_getElem?_getD, List.getElem?_eq_getElem hi]
  exact ⟨c.cls, c, A, rfl, by rw [hs, hl], hz, fun i hi => own_at e (g i hi), fun i hi => f _ (List.mem_of_getElem? (g i hi))⟩
theorem Ary.ofArv {k : ClassId} {z : Int32} {d : Value} (A : Arv Z h a k ty z vs d) (hl : z.toNatClampNeg = vs.length) : Ary Z h a ty vs := by
  obtain ⟨c, A, -, s1, s2, H, G⟩ := A
  have e : c.slots = vs.toArray := by
    refine Array.ext (by simp [s1, hl]) fun i h1 h2 => ?_
    have q := H i h1
    have h3 : i < vs.length := by simpa using h2
    rw [Array.getElem?_eq_getElem h1] at q
    have q' := Option.some.inj q
    rw [q']; simp [List.getD_eq_getElem?_getD, List.getElem?_eq_getElem h3]
  refine ⟨c, A, e, ?_, fun v hv => ?_⟩
  · rw [← hl]; have := Int32.toInt_lt z; simp only [Int32.toNatClampNeg]; omega
  · obtain ⟨i, hi, rfl⟩ := List.getElem_of_mem hv
    have q := G i (by rw [Ary.size e]; exact hi)
    simpa [List.getD_eq_getElem?_getD, List.getElem?_eq_getElem hi] using q
end Ary
section StepsA
variable {Z : State} {n0 kk : Nat} {code : ByteArray} {ml : Nat} {own nm : String} {ret : Option FieldType} {h : Heap} {p : Program} {l : Launch} {e : Env} {R : Room} {s : State} {m : MethodId} {args : Array Value} {below : List Frame} {meth : Method} {c : Code} {T : State} {locs : List Loc} {cells slots : Nat} {P : State → Outcome → Prop} {a0 : Array Value} {pc pc' : Nat} {L : Array Slot} {S : List Value}
theorem w_newarr (X : Sd Z n0 kk code ml own nm ret h p l e R s m args below meth c T locs cells slots) {aty : ArrayType} {n : Int32} (hd : Dc code pc (.newarray aty) 2 pc') (w : (Cond.arrayClass (newarray.typeOf aty)).before a0 Z = true) (k cap : Nat) (hn : ¬ n < 0) (hk : n.toNatClampNeg = k) (hcap : k ≤ cap) (hbig : cap * 8 ≤ 536870912) (hc : cells + 1 ≤ R.cells) (hl : slots + cap ≤ R.slots) (K : ∀ T' h' b, b = h.size → n0 ≤ b → Sd Z n0 kk code ml own nm ret h' p l e R s m args below meth c T' locs (cells + 1) (slots + cap) → Ext h h' → Ary Z h' b (newarray.typeOf aty) (List.replicate k (defaultValue (newarray.typeOf aty))) → Wp p e below P (T'.setTop (mkF m pc' L (.ref b :: S)))) : Wp p e below P (T.setTop (mkF m pc L (.int n :: S))) := by
  obtain ⟨hd, rfl⟩ := hd
  obtain ⟨T', h', cA, X', e', E, A, st⟩ := newP X.st X.hx X.hZ w X.eh (g := mkF m pc L (.int n :: S)) rfl (X.hb hd) rfl hn (cap := cap) (hk ▸ hcap) hbig hc hl
  exact Wp.of st (K T' h' _ rfl (X.old.1 ▸ X.old.2.1) (X.mk' X' e' X.fr (X.old.ext E) E.1) E (Ary.new A hk (by cases aty <;> rfl)))
theorem w_iaload (X : Sd Z n0 kk code ml own nm ret h p l e R s m args below meth c T locs cells slots) {a : Addr} {j : Int32} {vs : List Value} {v : Value} (hd : Dc code pc .iaload 1 pc') (A : Ary Z h a .int vs) (hj : ¬ j < 0) (hv : vs[j.toNatClampNeg]? = some v) (K : Wp p e below P (T.setTop (mkF m pc' L (v :: S)))) : Wp p e below P (T.setTop (mkF m pc L (.int j :: .ref a :: S))) := by
  obtain ⟨hd, rfl⟩ := hd
  obtain ⟨c', A, e, -⟩ := A
  exact Wp.of (fun _ k => X.st.iaload X.hx (by rw [X.eh]; exact A.1) (State.isArrayOf_alike X.hZ.alike A.2.1) A.2.2 (own_inb e hj hv) (own_at e hv) (g := mkF m pc L (.int j :: .ref a :: S)) rfl rfl (X.hb hd) _ k) K
theorem w_laload (X : Sd Z n0 kk code ml own nm ret h p l e R s m args below meth c T locs cells slots) {a : Addr} {j : Int32} {vs : List Value} {v : Value} (hd : Dc code pc .laload 1 pc') (A : Ary Z h a .long vs) (hj : ¬ j < 0) (hv : vs[j.toNatClampNeg]? = some v) (K : Wp p e below P (T.setTop (mkF m pc' L (v :: S)))) : Wp p e below P (T.setTop (mkF m pc L (.int j :: .ref a :: S))) := by
  obtain ⟨hd, rfl⟩ := hd
  obtain ⟨c', A, e, -⟩ := A
  exact Wp.of (fun _ k => X.st.laload X.hx (by rw [X.eh]; exact A.1) (State.isArrayOf_alike X.hZ.alike A.2.1) A.2.2 (own_inb e hj hv) (own_at e hv) (g := mkF m pc L (.int j :: .ref a :: S)) rfl rfl (X.hb hd) _ k) K
theorem w_caload (X : Sd Z n0 kk code ml own nm ret h p l e R s m args below meth c T locs cells slots) {a : Addr} {j : Int32} {vs : List Value} {v : Value} (hd : Dc code pc .caload 1 pc') (A : Ary Z h a .char vs) (hj : ¬ j < 0) (hv : vs[j.toNatClampNeg]? = some v) (K : Wp p e below P (T.setTop (mkF m pc' L (v :: S)))) : Wp p e below P (T.setTop (mkF m pc L (.int j :: .ref a :: S))) := by
  obtain ⟨hd, rfl⟩ := hd
  obtain ⟨c', A, e, -⟩ := A
  exact Wp.of (fun _ k => X.st.caload X.hx (by rw [X.eh]; exact A.1) (State.isArrayOf_alike X.hZ.alike A.2.1) A.2.2 (own_inb e hj hv) (own_at e hv) (g := mkF m pc L (.int j :: .ref a :: S)) rfl rfl (X.hb hd) _ k) K
theorem w_saload (X : Sd Z n0 kk code ml own nm ret h p l e R s m args below meth c T locs cells slots) {a : Addr} {j : Int32} {vs : List Value} {v : Value} (hd : Dc code pc .saload 1 pc') (A : Ary Z h a .short vs) (hj : ¬ j < 0) (hv : vs[j.toNatClampNeg]? = some v) (K : Wp p e below P (T.setTop (mkF m pc' L (v :: S)))) : Wp p e below P (T.setTop (mkF m pc L (.int j :: .ref a :: S))) := by
  obtain ⟨hd, rfl⟩ := hd
  obtain ⟨c', A, e, -⟩ := A
  exact Wp.of (fun _ k => X.st.saload X.hx (by rw [X.eh]; exact A.1) (State.isArrayOf_alike X.hZ.alike A.2.1) A.2.2 (own_inb e hj hv) (own_at e hv) (g := mkF m pc L (.int j :: .ref a :: S)) rfl rfl (X.hb hd) _ k) K
theorem w_baload (X : Sd Z n0 kk code ml own nm ret h p l e R s m args below meth c T locs cells slots) {a : Addr} {j : Int32} {vs : List Value} {v : Value} (hd : Dc code pc .baload 1 pc') (A : Ary Z h a .byte vs) (hj : ¬ j < 0) (hv : vs[j.toNatClampNeg]? = some v) (K : Wp p e below P (T.setTop (mkF m pc' L (v :: S)))) : Wp p e below P (T.setTop (mkF m pc L (.int j :: .ref a :: S))) := by
  obtain ⟨hd, rfl⟩ := hd
  obtain ⟨c', A, e, -⟩ := A
  exact Wp.of (fun _ k => X.st.baloadBytes X.hx (by rw [X.eh]; exact A.1) (State.isArrayOf_alike X.hZ.alike A.2.1) A.2.2 (own_inb e hj hv) (own_at e hv) (g := mkF m pc L (.int j :: .ref a :: S)) rfl rfl (X.hb hd) _ k) K
theorem w_aaload (X : Sd Z n0 kk code ml own nm ret h p l e R s m args below meth c T locs cells slots) {a : Addr} {j : Int32} {vs : List Value} {v : Value} {ty : FieldType} (hd : Dc code pc .aaload 1 pc') (A : Ary Z h a ty vs) (ht : ty.isReference = true) (hj : ¬ j < 0) (hv : vs[j.toNatClampNeg]? = some v) (K : Wp p e below P (T.setTop (mkF m pc' L (v :: S)))) : Wp p e below P (T.setTop (mkF m pc L (.int j :: .ref a :: S))) := by
  obtain ⟨hd, rfl⟩ := hd
  obtain ⟨c', A, e, -⟩ := A
  exact Wp.of (fun _ k => X.st.aaload X.hx (by rw [X.eh]; exact A.1) (State.isArrayOf_alike X.hZ.alike A.2.1) ht A.2.2 (own_inb e hj hv) (own_at e hv) (g := mkF m pc L (.int j :: .ref a :: S)) rfl rfl (X.hb hd) _ k) K
theorem w_arrlen (X : Sd Z n0 kk code ml own nm ret h p l e R s m args below meth c T locs cells slots) {a : Addr} {vs : List Value} {ty : FieldType} (n : Int32) (hd : Dc code pc .arraylength 1 pc') (A : Ary Z h a ty vs) (hn : vs.length.toInt32 = n) (K : Wp p e below P (T.setTop (mkF m pc' L (.int n :: S)))) : Wp p e below P (T.setTop (mkF m pc L (.ref a :: S))) := by
  obtain ⟨hd, rfl⟩ := hd
  obtain ⟨c', A, e, -⟩ := A
  exact Wp.of (fun _ k => X.st.arraylength X.hx (by rw [X.eh]; exact A.1) (State.isArrayOf_alike X.hZ.alike A.2.1) (g := mkF m pc L (.ref a :: S)) rfl rfl (X.hb hd) _ (by rw [Ary.size e, hn]; exact k)) K
theorem w_iastore (X : Sd Z n0 kk code ml own nm ret h p l e R s m args below meth c T locs cells slots) {a : Addr} {j : Int32} {x : Int32} {vs : List Value} {u : Value} (hd : Dc code pc .iastore 1 pc') (A : Ary Z h a .int vs) (hj : ¬ j < 0) (hv : vs[j.toNatClampNeg]? = some u) (ga : n0 ≤ a) (v' : Value) (e' : (.int x : Value) = v') (vs' : List Value) (hs : vs.set j.toNatClampNeg v' = vs') (K : ∀ T' h', Sd Z n0 kk code ml own nm ret h' p l e R s m args below meth c T' (locs ++ [⟨a, j.toNatClampNeg⟩]) cells slots → Wr h h' a j.toNatClampNeg v' → Ary Z h' a .int vs' → Wp p e below P (T'.setTop (mkF m pc' L S))) : Wp p e below P (T.setTop (mkF m pc L (.int x :: .int j :: .ref a :: S))) := by
  subst e' hs
  obtain ⟨hd, rfl⟩ := hd
  have A0 := A
  obtain ⟨c', A, e, -⟩ := A
  obtain ⟨T', h', X', e', W, st⟩ := stI X.st X.hx X.hZ X.eh A (own_inb e hj hv) (g := mkF m pc L (.int x :: .int j :: .ref a :: S)) rfl rfl (X.hb hd)
  exact Wp.of st (K T' h' (X.mk' X' e' (Fr.snoc X' X.fr ga) (X.old.wr W ga) (Nat.le_of_eq W.size.symm)) W (A0.set rfl W))
theorem w_lastore (X : Sd Z n0 kk code ml own nm ret h p l e R s m args below meth c T locs cells slots) {a : Addr} {j : Int32} {x : Int64} {vs : List Value} {u : Value} (hd : Dc code pc .lastore 1 pc') (A : Ary Z h a .long vs) (hj : ¬ j < 0) (hv : vs[j.toNatClampNeg]? = some u) (ga : n0 ≤ a) (v' : Value) (e' : (.long x : Value) = v') (vs' : List Value) (hs : vs.set j.toNatClampNeg v' = vs') (K : ∀ T' h', Sd Z n0 kk code ml own nm ret h' p l e R s m args below meth c T' (locs ++ [⟨a, j.toNatClampNeg⟩]) cells slots → Wr h h' a j.toNatClampNeg v' → Ary Z h' a .long vs' → Wp p e below P (T'.setTop (mkF m pc' L S))) : Wp p e below P (T.setTop (mkF m pc L (.long x :: .int j :: .ref a :: S))) := by
  subst e' hs
  obtain ⟨hd, rfl⟩ := hd
  have A0 := A
  obtain ⟨c', A, e, -⟩ := A
  obtain ⟨T', h', X', e', W, st⟩ := stJ X.st X.hx X.hZ X.eh A (own_inb e hj hv) (g := mkF m pc L (.long x :: .int j :: .ref a :: S)) rfl rfl (X.hb hd)
  exact Wp.of st (K T' h' (X.mk' X' e' (Fr.snoc X' X.fr ga) (X.old.wr W ga) (Nat.le_of_eq W.size.symm)) W (A0.set rfl W))
theorem w_castore (X : Sd Z n0 kk code ml own nm ret h p l e R s m args below meth c T locs cells slots) {a : Addr} {j : Int32} {x : Int32} {vs : List Value} {u : Value} (hd : Dc code pc .castore 1 pc') (A : Ary Z h a .char vs) (hj : ¬ j < 0) (hv : vs[j.toNatClampNeg]? = some u) (ga : n0 ≤ a) (v' : Value) (e' : (.int (nar .char x) : Value) = v') (vs' : List Value) (hs : vs.set j.toNatClampNeg v' = vs') (K : ∀ T' h', Sd Z n0 kk code ml own nm ret h' p l e R s m args below meth c T' (locs ++ [⟨a, j.toNatClampNeg⟩]) cells slots → Wr h h' a j.toNatClampNeg v' → Ary Z h' a .char vs' → Wp p e below P (T'.setTop (mkF m pc' L S))) : Wp p e below P (T.setTop (mkF m pc L (.int x :: .int j :: .ref a :: S))) := by
  subst e' hs
  obtain ⟨hd, rfl⟩ := hd
  have A0 := A
  obtain ⟨c', A, e, -⟩ := A
  obtain ⟨T', h', X', e', W, st⟩ := stC X.st X.hx X.hZ X.eh A (own_inb e hj hv) (g := mkF m pc L (.int x :: .int j :: .ref a :: S)) rfl rfl (X.hb hd)
  exact Wp.of st (K T' h' (X.mk' X' e' (Fr.snoc X' X.fr ga) (X.old.wr W ga) (Nat.le_of_eq W.size.symm)) W (A0.set (fits_nar_char _) W))
theorem w_sastore (X : Sd Z n0 kk code ml own nm ret h p l e R s m args below meth c T locs cells slots) {a : Addr} {j : Int32} {x : Int32} {vs : List Value} {u : Value} (hd : Dc code pc .sastore 1 pc') (A : Ary Z h a .short vs) (hj : ¬ j < 0) (hv : vs[j.toNatClampNeg]? = some u) (ga : n0 ≤ a) (v' : Value) (e' : (.int (nar .short x) : Value) = v') (vs' : List Value) (hs : vs.set j.toNatClampNeg v' = vs') (K : ∀ T' h', Sd Z n0 kk code ml own nm ret h' p l e R s m args below meth c T' (locs ++ [⟨a, j.toNatClampNeg⟩]) cells slots → Wr h h' a j.toNatClampNeg v' → Ary Z h' a .short vs' → Wp p e below P (T'.setTop (mkF m pc' L S))) : Wp p e below P (T.setTop (mkF m pc L (.int x :: .int j :: .ref a :: S))) := by
  subst e' hs
  obtain ⟨hd, rfl⟩ := hd
  have A0 := A
  obtain ⟨c', A, e, -⟩ := A
  obtain ⟨T', h', X', e', W, st⟩ := stS X.st X.hx X.hZ X.eh A (own_inb e hj hv) (g := mkF m pc L (.int x :: .int j :: .ref a :: S)) rfl rfl (X.hb hd)
  exact Wp.of st (K T' h' (X.mk' X' e' (Fr.snoc X' X.fr ga) (X.old.wr W ga) (Nat.le_of_eq W.size.symm)) W (A0.set (fits_nar_short _) W))
theorem w_bastore (X : Sd Z n0 kk code ml own nm ret h p l e R s m args below meth c T locs cells slots) {a : Addr} {j : Int32} {x : Int32} {vs : List Value} {u : Value} (hd : Dc code pc .bastore 1 pc') (A : Ary Z h a .byte vs) (hj : ¬ j < 0) (hv : vs[j.toNatClampNeg]? = some u) (ga : n0 ≤ a) (v' : Value) (e' : (.int (nar .byte x) : Value) = v') (vs' : List Value) (hs : vs.set j.toNatClampNeg v' = vs') (K : ∀ T' h', Sd Z n0 kk code ml own nm ret h' p l e R s m args below meth c T' (locs ++ [⟨a, j.toNatClampNeg⟩]) cells slots → Wr h h' a j.toNatClampNeg v' → Ary Z h' a .byte vs' → Wp p e below P (T'.setTop (mkF m pc' L S))) : Wp p e below P (T.setTop (mkF m pc L (.int x :: .int j :: .ref a :: S))) := by
  subst e' hs
  obtain ⟨hd, rfl⟩ := hd
  have A0 := A
  obtain ⟨c', A, e, -⟩ := A
  obtain ⟨T', h', X', e', W, st⟩ := stB X.st X.hx X.hZ X.eh A (own_inb e hj hv) (g := mkF m pc L (.int x :: .int j :: .ref a :: S)) rfl rfl (X.hb hd)
  exact Wp.of st (K T' h' (X.mk' X' e' (Fr.snoc X' X.fr ga) (X.old.wr W ga) (Nat.le_of_eq W.size.symm)) W (A0.set (fits_nar_byte _) W))
theorem w_zastore (X : Sd Z n0 kk code ml own nm ret h p l e R s m args below meth c T locs cells slots) {a : Addr} {j : Int32} {x : Int32} {vs : List Value} {u : Value} (hd : Dc code pc .bastore 1 pc') (A : Ary Z h a .boolean vs) (hj : ¬ j < 0) (hv : vs[j.toNatClampNeg]? = some u) (ga : n0 ≤ a) (v' : Value) (e' : (.int (nar .boolean x) : Value) = v') (vs' : List Value) (hs : vs.set j.toNatClampNeg v' = vs') (K : ∀ T' h', Sd Z n0 kk code ml own nm ret h' p l e R s m args below meth c T' (locs ++ [⟨a, j.toNatClampNeg⟩]) cells slots → Wr h h' a j.toNatClampNeg v' → Ary Z h' a .boolean vs' → Wp p e below P (T'.setTop (mkF m pc' L S))) : Wp p e below P (T.setTop (mkF m pc L (.int x :: .int j :: .ref a :: S))) := by
  subst e' hs
  obtain ⟨hd, rfl⟩ := hd
  have A0 := A
  obtain ⟨c', A, e, -⟩ := A
  obtain ⟨T', h', X', e', W, st⟩ := stZ X.st X.hx X.hZ X.eh A (own_inb e hj hv) (g := mkF m pc L (.int x :: .int j :: .ref a :: S)) rfl rfl (X.hb hd)
  exact Wp.of st (K T' h' (X.mk' X' e' (Fr.snoc X' X.fr ga) (X.old.wr W ga) (Nat.le_of_eq W.size.symm)) W (A0.set (fits_nar_bool _) W))
theorem w_cast (X : Sd Z n0 kk code ml own nm ret h p l e R s m args below meth c T locs cells slots) {K0 : String} {index : Nat} {a : Addr} (hd : Dc code pc (.checkcast index) 3 pc') (w : (Cond.classLink own index K0).before a0 Z = true) (F : Ins Z h a K0 true) (K : ∀ T', Sd Z n0 kk code ml own nm ret h p l e R s m args below meth c T' locs cells slots → Wp p e below P (T'.setTop (mkF m pc' L (.ref a :: S)))) : Wp p e below P (T.setTop (mkF m pc L (.ref a :: S))) := by
  obtain ⟨hd, rfl⟩ := hd
  obtain ⟨T', X', e', st⟩ := castY X.st X.hx X.hZ X.hown w X.eh F (g := mkF m pc L (.ref a :: S)) rfl rfl (X.hb hd)
  exact Wp.of st (K T' (X.mk' X' e' X.fr X.old (Nat.le_refl _)))
theorem w_inst (X : Sd Z n0 kk code ml own nm ret h p l e R s m args below meth c T locs cells slots) {K0 : String} {index : Nat} {a : Addr} (hd : Dc code pc (.instanceof index) 3 pc') (w : (Cond.classLink own index K0).before a0 Z = true) (F : Ins Z h a K0 true) (K : ∀ T', Sd Z n0 kk code ml own nm ret h p l e R s m args below meth c T' locs cells slots → Wp p e below P (T'.setTop (mkF m pc' L (.int (1 : Int32) :: S)))) : Wp p e below P (T.setTop (mkF m pc L (.ref a :: S))) := by
  obtain ⟨hd, rfl⟩ := hd
  obtain ⟨T', X', e', st⟩ := instY X.st X.hx X.hZ X.hown w X.eh F (g := mkF m pc L (.ref a :: S)) rfl rfl (X.hb hd)
  exact Wp.of st (K T' (X.mk' X' e' X.fr X.old (Nat.le_refl _)))
end StepsA
end Jvm.RoadKit
namespace Jvm.RoadKit
open Sem ClassFile Op Lib Jvm.Stand Jvm.Free Jvm.LawKit
def PoW (Z : State) (n0 : Nat) (s : State) (Q : Option Value → Heap → Prop) (ce sl : Nat) : State → Outcome → Prop := fun U o => ∃ v L, o = .returned v ∧ (Fr n0 L ∧ Old Z n0 U.heap ∧ s.heap.size ≤ U.heap.size ∧ Q v U.heap) ∧ ReturnedEndW s o U L ce sl
def DoesW (l : Launch) (Z : State) (n0 : Nat) (y : MethodName) (code : ByteArray) (ml : Nat) (ret : Option FieldType) (ws : List Cond) (rm : Room) (as' : Array Value) (h0 : Heap) (Q : Option Value → Heap → Prop) : Prop :=
  Old Z n0 h0 → MetFree l y (head1 (Cond.code y code ml ret :: ws) rm) (fun a U => a = as' ∧ Z.Warmed39 U.vm ∧ U.heap = h0) (fun _ _ _ _ _ => True) (fun _ U o U' => ∃ v L, o = .returned v ∧ (Fr n0 L ∧ Old Z n0 U'.heap ∧ h0.size ≤ U'.heap.size ∧ Q v U'.heap) ∧ ReturnedEndW U o U' L rm.cells rm.slots)
theorem DoesW.start {l : Launch} {Z : State} {n0 : Nat} {y : MethodName} {code : ByteArray} {ml : Nat} {ret : Option FieldType} {ws : List Cond} {rm : Room} {as' : Array Value} {h0 : Heap} {Q : Option Value → Heap → Prop} (hp : plainFor y = true)
    (body : ∀ p e s m below meth c s₁, Sd Z n0 0 code ml y.cls y.name ret h0 p l e rm (s.setVm s.vm) m as' below meth c s₁ [] 0 0 → s.Since s.vm 0 → s.heap = h0 → Wp p e below (PoW Z n0 s Q rm.cells rm.slots) (s₁.setTop (entryFrame m as' ml))) : DoesW l Z n0 y code ml ret ws rm as' h0 Q := by
  intro hold
  refine MetFree.of_bodySF hp hisR ?_
  intro p e s m args below meth c s₁ Bd hml0 hP hK
  obtain ⟨rfl, hZ, hh⟩ := hP
  have hh' := hh
  subst hh
  exact body p e s m below meth c s₁ ⟨Stand.of_body Bd, ⟨Bd.exec, Bd.bytes, hml0, findClass_of_methodNamed Bd.named, hZ, Bd.returns, (name_of_methodNamed Bd.named Bd.method).1, Bd.notSynchronized⟩, by rw [Bd.state]; rfl, Fr.nil n0, hold, Nat.zero_le _⟩ ((State.WarmedH.refl s).since 0) rfl
theorem DoesW.mono {l : Launch} {Z : State} {n0 : Nat} {y : MethodName} {code : ByteArray} {ml : Nat} {ret : Option FieldType} {ws : List Cond} {rm : Room} {as' : Array Value} {h0 : Heap} {Q Q' : Option Value → Heap → Prop} (D : DoesW l Z n0 y code ml ret ws rm as' h0 Q) (f : ∀ v h, Q v h → Q' v h) : DoesW l Z n0 y code ml ret ws rm as' h0 Q' := by
  intro hold p e ha hc hk s m args below hf happ hP hK
  obtain ⟨n, o, h1, h2, h3, v, L, e1, ⟨q1, q2, q2', q3⟩, q4⟩ := D hold p e ha hc hk s m args below hf happ hP hK
  exact ⟨n, o, h1, h2, h3, v, L, e1, ⟨q1, q2, q2', f _ _ q3⟩, q4⟩
/-- the law's own contract: at the start Z itself -/
def DoesL (l : Launch) (Z : State) (n0 : Nat) (y : MethodName) (code : ByteArray) (ml : Nat) (ret : Option FieldType) (ws : List Cond) (rm : Room) (as' : Array Value) (Q : Option Value → Heap → Prop) : Prop :=
  MetFree l y (head1 (Cond.code y code ml ret :: ws) rm) (fun a U => a = as' ∧ U = Z) (fun _ _ _ _ _ => True) (fun _ U o U' => ∃ v L, o = .returned v ∧ (Fr n0 L ∧ Old Z n0 U'.heap ∧ U.heap.size ≤ U'.heap.size ∧ Q v U'.heap) ∧ ReturnedEndW U o U' L rm.cells rm.slots)
theorem DoesL.start {l : Launch} {Z : State} {n0 : Nat} {y : MethodName} {code : ByteArray} {ml : Nat} {ret : Option FieldType} {ws : List Cond} {rm : Room} {as' : Array Value} {Q : Option Value → Heap → Prop} (hn0 : Z.heap.size = n0) (hp : plainFor y = true)
    (body : ∀ p e s m below meth c s₁, Sd Z n0 0 code ml y.cls y.name ret Z.heap p l e rm (s.setVm s.vm) m as' below meth c s₁ [] 0 0 → s.Since s.vm 0 → s = Z → Wp p e below (PoW Z n0 s Q rm.cells rm.slots) (s₁.setTop (entryFrame m as' ml))) : DoesL l Z n0 y code ml ret ws rm as' Q := by
  refine MetFree.of_bodySF hp hisR ?_
  intro p e s m args below meth c s₁ Bd hml0 hP hK
  obtain ⟨rfl, hh⟩ := hP
  have hh' := hh
  subst hh
  exact body p e s m below meth c s₁ ⟨Stand.of_body Bd, ⟨Bd.exec, Bd.bytes, hml0, findClass_of_methodNamed Bd.named, State.Warmed39.refl s, Bd.returns, (name_of_methodNamed Bd.named Bd.method).1, Bd.notSynchronized⟩, by rw [Bd.state]; rfl, Fr.nil n0, hn0 ▸ Old.start s, Nat.zero_le _⟩ ((State.WarmedH.refl s).since 0) rfl
section StepsW
variable {Z : State} {n0 kk : Nat} {code : ByteArray} {ml : Nat} {own nm : String} {ret : Option FieldType} {h : Heap} {p : Program} {l : Launch} {e : Env} {R : Room} {s : State} {m : MethodId} {args : Array Value} {below : List Frame} {meth : Method} {c : Code} {T : State} {locs : List Loc} {cells slots : Nat} {P : State → Outcome → Prop} {a0 : Array Value} {u : Vm} {pc pc' : Nat} {L : Array Slot} {S : List Value} {Q : Option Value → Heap → Prop} {ce sl : Nat}
theorem Sd.doneW (X : Sd Z n0 kk code ml own nm ret h p l e R (s.setVm u) m args below meth c T locs cells slots) (Y : s.Since u kk) {v : Option Value} (hv : ret = none → v = none) (hq : Q v h) (hc : cells ≤ ce) (hs : slots ≤ sl) {g : JFrame} (step : ∀ fs, (∀ (f : JFrame) (acts : List Action), f.method = m → f.locked = none → f.entered = [] → (doReturn e (T.setTop f) acts v).1 = T.setFrames fs) → Steps p.tables e below (T.setTop g) (T.setFrames fs)) : Wp p e below (PoW Z n0 s Q ce sl) (T.setTop g) := by
  obtain ⟨fs, hr, hrun, hended, hE⟩ := X.st.leaveW Y (by rw [X.eh]; exact X.hkk) (v := v) (fun q => hv (X.hret ▸ q)) X.hlk
  have e1 : (T.setFrames fs).heap = h := X.eh
  refine ⟨_, _, step fs hr, hrun, hended, v, locs, rfl, ⟨X.fr, ?_, X.st.same.2.1, ?_⟩, hE.1, hE.2.1, hE.2.2.1, hE.2.2.2.mono hc hs⟩
  · rw [e1]; exact X.old
  · rw [e1]; exact hq
theorem v_retI (X : Sd Z n0 kk code ml own nm (some .int) h p l e R (s.setVm u) m args below meth c T locs cells slots) (Y : s.Since u kk) {z : Int32} (hd : Dc code pc .ireturn 1 pc') (hq : Q (some (.int z)) h) (hc : cells ≤ ce) (hs : slots ≤ sl) : Wp p e below (PoW Z n0 s Q ce sl) (T.setTop (mkF m pc L (.int z :: S))) :=
  X.doneW Y nofun hq hc hs fun fs hr => retOut X.st X.hx X.hret rfl (Or.inl ⟨rfl, Or.inl rfl, z, rfl⟩) (X.hb hd.1) hr
theorem v_ret_boolean (X : Sd Z n0 kk code ml own nm (some .boolean) h p l e R (s.setVm u) m args below meth c T locs cells slots) (Y : s.Since u kk) {z : Int32} (z' : Int32) (hz : nar .boolean z = z') (hd : Dc code pc .ireturn 1 pc') (hq : Q (some (.int z')) h) (hc : cells ≤ ce) (hs : slots ≤ sl) : Wp p e below (PoW Z n0 s Q ce sl) (T.setTop (mkF m pc L (.int z :: S))) := by
  subst hz
  exact X.doneW Y nofun hq hc hs fun fs hr => retN X.st X.hx X.hret (by simp) (X.hb hd.1) hr
theorem v_ret_byte (X : Sd Z n0 kk code ml own nm (some .byte) h p l e R (s.setVm u) m args below meth c T locs cells slots) (Y : s.Since u kk) {z : Int32} (z' : Int32) (hz : nar .byte z = z') (hd : Dc code pc .ireturn 1 pc') (hq : Q (some (.int z')) h) (hc : cells ≤ ce) (hs : slots ≤ sl) : Wp p e below (PoW Z n0 s Q ce sl) (T.setTop (mkF m pc L (.int z :: S))) := by
  subst hz
  exact X.doneW Y nofun hq hc hs fun fs hr => retN X.st X.hx X.hret (by simp) (X.hb hd.1) hr
theorem v_ret_char (X : Sd Z n0 kk code ml own nm (some .char) h p l e R (s.setVm u) m args below meth c T locs cells slots) (Y : s.Since u kk) {z : Int32} (z' : Int32) (hz : nar .char z = z') (hd : Dc code pc .ireturn 1 pc') (hq : Q (some (.int z')) h) (hc : cells ≤ ce) (hs : slots ≤ sl) : Wp p e below (PoW Z n0 s Q ce sl) (T.setTop (mkF m pc L (.int z :: S))) := by
  subst hz
  exact X.doneW Y nofun hq hc hs fun fs hr => retN X.st X.hx X.hret (by simp) (X.hb hd.1) hr
theorem v_ret_short (X : Sd Z n0 kk code ml own nm (some .short) h p l e R (s.setVm u) m args below meth c T locs cells slots) (Y : s.Since u kk) {z : Int32} (z' : Int32) (hz : nar .short z = z') (hd : Dc code pc .ireturn 1 pc') (hq : Q (some (.int z')) h) (hc : cells ≤ ce) (hs : slots ≤ sl) : Wp p e below (PoW Z n0 s Q ce sl) (T.setTop (mkF m pc L (.int z :: S))) := by
  subst hz
  exact X.doneW Y nofun hq hc hs fun fs hr => retN X.st X.hx X.hret (by simp) (X.hb hd.1) hr
theorem v_retJ (X : Sd Z n0 kk code ml own nm (some .long) h p l e R (s.setVm u) m args below meth c T locs cells slots) (Y : s.Since u kk) {z : Int64} (hd : Dc code pc .lreturn 1 pc') (hq : Q (some (.long z)) h) (hc : cells ≤ ce) (hs : slots ≤ sl) : Wp p e below (PoW Z n0 s Q ce sl) (T.setTop (mkF m pc L (.long z :: S))) :=
  X.doneW Y nofun hq hc hs fun fs hr => retOut X.st X.hx X.hret rfl (Or.inr (Or.inl ⟨rfl, rfl, z, rfl⟩)) (X.hb hd.1) hr
theorem v_retR (X : Sd Z n0 kk code ml own nm ret h p l e R (s.setVm u) m args below meth c T locs cells slots) (Y : s.Since u kk) {t : FieldType} {z : Value} (ht : t.isReference = true) (hz : z.isRef = true) (hret : ret = some t) (hd : Dc code pc .areturn 1 pc') (hq : Q (some z) h) (hc : cells ≤ ce) (hs : slots ≤ sl) : Wp p e below (PoW Z n0 s Q ce sl) (T.setTop (mkF m pc L (z :: S))) := by
  subst hret
  exact X.doneW Y nofun hq hc hs fun fs hr => retOut X.st X.hx X.hret (by rcases ref_cases hz with rfl | ⟨z, rfl⟩ <;> cases t <;> first | rfl | cases ht) (Or.inr (Or.inr (Or.inr (Or.inr ⟨rfl, ht, hz⟩)))) (X.hb hd.1) hr
theorem v_retV (X : Sd Z n0 kk code ml own nm (none) h p l e R (s.setVm u) m args below meth c T locs cells slots) (Y : s.Since u kk) (hd : Dc code pc .return_ 1 pc') (hq : Q none h) (hc : cells ≤ ce) (hs : slots ≤ sl) : Wp p e below (PoW Z n0 s Q ce sl) (T.setTop (mkF m pc L [])) :=
  X.doneW Y (fun _ => rfl) hq hc hs fun fs hr => X.st.returnOut X.hx X.hret (X.hb hd.1) hr
theorem v_ldcS (X : Sd Z n0 kk code ml own nm ret h p l e R (s.setVm u) m args below meth c T locs cells slots) (Y : s.Since u kk) {index : Nat} {text : String} (hd : Dc code pc (.ldc index) 2 pc') (w1 : (Cond.stringLink own index text).before a0 Z = true) (wS : ∀ a ∈ Bundle.stringAtoms, a.before a0 Z = true) (n : Nat) (hn : 4 * text.toList.length ≤ n) (hbig : n ≤ 536870912) (hc : cells + 2 ≤ R.cells) (hl : slots + (n + 4) ≤ R.slots) (K : ∀ T' h' u' kk' a, Sd Z n0 kk' code ml own nm ret h' p l e R (s.setVm u') m args below meth c T' locs (cells + 2) (slots + (n + 4)) → s.Since u' kk' → Ext h h' → Wp p e below P (T'.setTop (mkF m pc' L (.ref a :: S)))) : Wp p e below P (T.setTop (mkF m pc L S)) := by
  obtain ⟨hd, rfl⟩ := hd
  obtain ⟨a, T', h', k1, X', e', E, Y', hk, hZ', ho', st⟩ := ldcS X.st X.hx X.hZ X.hown w1 wS X.eh Y X.hkk (g := mkF m pc L S) rfl (X.hb hd) hn hbig hc hl
  exact Wp.of st (K T' h' T'.vm k1 a ⟨X', ⟨X.hx, X.2.1.2.1, X.hml, ho', hZ', X.hret, X.hnm, X.hlk⟩, e', X.fr, X.old.ext E, hk⟩ Y' E)
theorem v_ldcT (X : Sd Z n0 kk code ml own nm ret h p l e R (s.setVm u) m args below meth c T locs cells slots) (Y : s.Since u kk) {index : Nat} {text : String} {Ts : List String} (hd : Dc code pc (.ldc index) 2 pc') (w1 : (Cond.stringLink own index text).before a0 Z = true) (wS : ∀ a ∈ Bundle.stringAtoms, a.before a0 Z = true) (hZs : Z.heap.size = n0) (hs0 : s.heap.size = n0) (hkeep : ∀ (b : Addr) (cl : Cell), Z.heap[b]? = some cl → s.heap[b]? = some cl) (I : IB Z u Ts) (hnot : text ∉ Ts) (hh : Jvm.Lit.constHeld Z own index) (hcw : Jvm.Lit.compactW.before a0 Z = true) (vs : List Value) (z : Int32) (ht : (∀ c ∈ text.toList, c.toNat < 256) ∧ text.toList.map (fun c => Value.int (Jvm.Lit.byteI c.toNat.toUInt16)) = vs) (hz : ¬ z < 0) (hzl : z.toNatClampNeg = vs.length) (n : Nat) (hn : 4 * text.toList.length ≤ n) (hbig : n ≤ 536870912) (hc : cells + 2 ≤ R.cells) (hl : slots + (n + 4) ≤ R.slots) (K : ∀ T' h' u' kk' a b, Sd Z n0 kk' code ml own nm ret h' p l e R (s.setVm u') m args below meth c T' locs (cells + 2) (slots + (n + 4)) → s.Since u' kk' → Ext h h' → Exa Z h' a "java/lang/String" → Fld Z h' a "java/lang/String" "coder" "B" (.int 0) → Fld Z h' a "java/lang/String" "value" "[B" (.ref b) → Ary Z h' b .byte vs → IB Z u' (text :: Ts) → Wp p e below P (T'.setTop (mkF m pc' L (.ref a :: S)))) : Wp p e below P (T.setTop (mkF m pc L S)) := by
  obtain ⟨hd, rfl⟩ := hd
  obtain ⟨a, T', h', k1, b, k, X', e', E, Y', hk, hZ', ho', r8, r9, r10, r11, -, -, r14, st⟩ := ldcSV (s := s) X.st X.hx X.hZ X.hown w1 wS X.eh Y X.hkk (by show Fr s.heap.size locs; rw [hs0]; exact X.fr) hkeep I hnot hh hcw ht hz hzl (g := mkF m pc L S) rfl (X.hb hd) hn hbig hc hl
  exact Wp.of st (K T' h' T'.vm k1 a b ⟨X', ⟨X.hx, X.2.1.2.1, X.hml, ho', hZ', X.hret, X.hnm, X.hlk⟩, e', X.fr, X.old.ext E, hk⟩ Y' E r8 r9 r10 (Ary.ofArv r11 hzl) r14)
theorem v_callS (X : Sd Z n0 kk code ml own nm ret h p l e R (s.setVm u) m args below meth c T locs cells slots) (Y : s.Since u kk) {y : MethodName} {bytes : ByteArray} {maxL : Nat} {ret' : Option FieldType} {rm : Room} {index : Nat} {Q' : Option Value → Heap → Prop} {ps : List FieldType} {rr : Option FieldType} {stk : List Value} (hd : Dc code pc (.invokestatic index) 3 pc') (w1 : (Cond.methodLink own index y).before a0 Z = true) (w2 : (Cond.static y).before a0 Z = true) (w3 : (Cond.initialized y.cls).before a0 Z = true) (w4 : (Cond.code y bytes maxL ret').before a0 Z = true) (hy : y.cls ≠ "java/lang/invoke/MethodHandle" ∧ y.cls ≠ "java/lang/invoke/VarHandle") {argsL : List Value} (D : DoesW l Z n0 y bytes maxL ret' [] rm argsL.toArray h Q') (hpd : parseMethodDescriptor y.desc = some ⟨ps, rr⟩) (hlen : argsL.length = ps.length) (hst : stk = argsL.reverse ++ S) (hsz : L.size = ml) (hf : rm.frames + 1 ≤ R.frames) (hl : (S.map fun v => v.category).sum + (maxL + 11) + rm.locals ≤ R.locals) (hc : cells + rm.cells ≤ R.cells) (hs : slots + rm.slots ≤ R.slots) (K : ∀ T' h' v L' u' kk', Sd Z n0 kk' code ml own nm ret h' p l e R (s.setVm u') m args below meth c T' (locs ++ L') (cells + rm.cells) (slots + rm.slots) → s.Since u' kk' → Q' v h' → Wp p e below P (T'.setTop (mkF m pc' L (v.toList ++ S)))) : Wp p e below P (T.setTop (mkF m pc L stk)) := by
  obtain ⟨hd, rfl⟩ := hd
  obtain ⟨v, vm1, ⟨T', L1, k1, n1⟩, -, X', hS', hgr, ⟨Lc, hQ, l1, y1, z1⟩, st⟩ := callSS X.st X.hx X.hown (mvT X.hZ w1) (mvT X.hZ w2) (mvT X.hZ w3) (mvT X.hZ w4) hy (backOfS (Q := fun v h' L => Fr n0 L ∧ Old Z n0 h' ∧ h.size ≤ h'.size ∧ Q' v h') (W := (S.map fun v => v.category).sum) (D X.old) X.hZ w4 w3 hf hl) (g := mkF m pc L stk) rfl (by rw [X.hml]; exact hsz) (argsL := argsL) (rest := S) (lenOf hpd hlen) hst (by show 2 * 0 + _ ≤ _; omega) (X.hb hd) (fun _ _ => ⟨rfl, X.eh, hc, hs⟩)
  dsimp only [Pt.U, Pt.locs, Pt.cells, Pt.slots] at X' hS' hgr l1 y1 z1 st hQ
  subst l1 y1 z1
  exact Wp.tr st (K T' _ v Lc T'.vm T'.heap.size ⟨X', ⟨X.hx, X.2.1.2.1, X.hml, (hS'.1.alike.findClass _ _).trans X.hown, State.Warmed39.trans X.hZ hS'.1, X.hret, X.hnm, X.hlk⟩, rfl, X.fr.app hQ.1, hQ.2.1, Nat.le_refl _⟩ (Y.trans hS' (Nat.le_trans X.hkk (X.eh ▸ hgr))) hQ.2.2.2)
theorem v_callI (X : Sd Z n0 kk code ml own nm ret h p l e R (s.setVm u) m args below meth c T locs cells slots) (Y : s.Since u kk) {y : MethodName} {bytes : ByteArray} {maxL : Nat} {rm : Room} {index : Nat} {Q' : Option Value → Heap → Prop} {ps : List FieldType} {rr : Option FieldType} {stk : List Value} (hd : Dc code pc (.invokespecial index) 3 pc') (hi : y.name = "<init>") (w1 : (Cond.methodLink own index y).before a0 Z = true) (w2 : (Cond.instanceMethod y).before a0 Z = true) (w3 : (Cond.initialized y.cls).before a0 Z = true) (w4 : (Cond.code y bytes maxL none).before a0 Z = true) (hy : y.cls ≠ "java/lang/invoke/MethodHandle" ∧ y.cls ≠ "java/lang/invoke/VarHandle") {a : Addr} {argsL : List Value} (D : DoesW l Z n0 y bytes maxL none [] rm (.ref a :: argsL).toArray h Q') (hpd : parseMethodDescriptor y.desc = some ⟨ps, rr⟩) (hlen : argsL.length = ps.length) (hst : stk = argsL.reverse ++ .ref a :: S) (hsz : L.size = ml) (hf : rm.frames + 1 ≤ R.frames) (hl : (S.map fun v => v.category).sum + (maxL + 11) + rm.locals ≤ R.locals) (hc : cells + rm.cells ≤ R.cells) (hs : slots + rm.slots ≤ R.slots) (K : ∀ T' h' v L' u' kk', Sd Z n0 kk' code ml own nm ret h' p l e R (s.setVm u') m args below meth c T' (locs ++ L') (cells + rm.cells) (slots + rm.slots) → s.Since u' kk' → Q' v h' → Wp p e below P (T'.setTop (mkF m pc' L (v.toList ++ S)))) : Wp p e below P (T.setTop (mkF m pc L stk)) := by
  obtain ⟨hd, rfl⟩ := hd
  obtain ⟨v, vm1, ⟨T', L1, k1, n1⟩, -, X', hS', hgr, ⟨Lc, hQ, l1, y1, z1⟩, st⟩ := X.st.specialBackS X.hx hi X.hown (mvT X.hZ w1) (mvT X.hZ w2) (mvT X.hZ w4) hy (backOfS (Q := fun v h' L => Fr n0 L ∧ Old Z n0 h' ∧ h.size ≤ h'.size ∧ Q' v h') (W := (S.map fun v => v.category).sum) (D X.old) X.hZ w4 w3 hf hl) (g := mkF m pc L stk) rfl (by rw [X.hml]; exact hsz) (Steps.refl _) (a := a) (argsL := argsL) (rest := S) (lenOf hpd hlen) hst (by show 2 * 0 + _ ≤ _; omega) (X.hb hd) (fun _ _ => ⟨rfl, X.eh, hc, hs⟩)
  dsimp only [Pt.U, Pt.locs, Pt.cells, Pt.slots] at X' hS' hgr l1 y1 z1 st hQ
  subst l1 y1 z1
  exact Wp.tr st (K T' _ v Lc T'.vm T'.heap.size ⟨X', ⟨X.hx, X.2.1.2.1, X.hml, (hS'.1.alike.findClass _ _).trans X.hown, State.Warmed39.trans X.hZ hS'.1, X.hret, X.hnm, X.hlk⟩, rfl, X.fr.app hQ.1, hQ.2.1, Nat.le_refl _⟩ (Y.trans hS' (Nat.le_trans X.hkk (X.eh ▸ hgr))) hQ.2.2.2)
theorem v_callV (X : Sd Z n0 kk code ml own nm ret h p l e R (s.setVm u) m args below meth c T locs cells slots) (Y : s.Since u kk) {y : MethodName} {bytes : ByteArray} {maxL : Nat} {ret' : Option FieldType} {rm : Room} {index : Nat} {Q' : Option Value → Heap → Prop} {ps : List FieldType} {rr : Option FieldType} {stk : List Value} {z : MethodName} {C : String} (hd : Dc code pc (.invokevirtual index) 3 pc') (w1 : (Cond.methodLink own index y).before a0 Z = true) (wd : (Cond.declares y).before a0 Z = true) (hnf : NotFace (s.setVm u) y) (ws : (Cond.selects C y z).before a0 Z = true) (w2 : (Cond.instanceMethod z).before a0 Z = true) (w3 : (Cond.initialized z.cls).before a0 Z = true) (w4 : (Cond.code z bytes maxL ret').before a0 Z = true) (hy : y.cls ≠ "java/lang/invoke/MethodHandle" ∧ y.cls ≠ "java/lang/invoke/VarHandle") {a : Addr} (E : Exa Z h a C) {argsL : List Value} (D : DoesW l Z n0 z bytes maxL ret' [] rm (.ref a :: argsL).toArray h Q') (hpd : parseMethodDescriptor y.desc = some ⟨ps, rr⟩) (hlen : argsL.length = ps.length) (hst : stk = argsL.reverse ++ .ref a :: S) (hsz : L.size = ml) (hf : rm.frames + 1 ≤ R.frames) (hl : (S.map fun v => v.category).sum + (maxL + 11) + rm.locals ≤ R.locals) (hc : cells + rm.cells ≤ R.cells) (hs : slots + rm.slots ≤ R.slots) (K : ∀ T' h' v L' u' kk', Sd Z n0 kk' code ml own nm ret h' p l e R (s.setVm u') m args below meth c T' (locs ++ L') (cells + rm.cells) (slots + rm.slots) → s.Since u' kk' → Q' v h' → Wp p e below P (T'.setTop (mkF m pc' L (v.toList ++ S)))) : Wp p e below P (T.setTop (mkF m pc L stk)) := by
  obtain ⟨hd, rfl⟩ := hd
  obtain ⟨cq, kq, qa, qb, qc⟩ := isOf X.hZ X.eh E
  obtain ⟨v, vm1, ⟨T', L1, k1, n1⟩, -, X', hS', hgr, ⟨Lc, hQ, l1, y1, z1⟩, st⟩ := X.st.virtualBackS X.hx X.hown (mvT X.hZ w1) (mvT X.hZ wd) hnf (mvT X.hZ ws) (mvT X.hZ w2) hy (backOfS (Q := fun v h' L => Fr n0 L ∧ Old Z n0 h' ∧ h.size ≤ h'.size ∧ Q' v h') (W := (S.map fun v => v.category).sum) (D X.old) X.hZ w4 w3 hf hl) qa qc (g := mkF m pc L stk) rfl (by rw [X.hml]; exact hsz) (Steps.refl _) (argsL := argsL) (rest := S) (lenOf hpd hlen) hst (by show 2 * 0 + _ ≤ _; omega) (X.hb hd) (fun _ _ => ⟨rfl, X.eh, hc, hs⟩)
  dsimp only [Pt.U, Pt.locs, Pt.cells, Pt.slots] at X' hS' hgr l1 y1 z1 st hQ
  subst l1 y1 z1
  exact Wp.tr st (K T' _ v Lc T'.vm T'.heap.size ⟨X', ⟨X.hx, X.2.1.2.1, X.hml, (hS'.1.alike.findClass _ _).trans X.hown, State.Warmed39.trans X.hZ hS'.1, X.hret, X.hnm, X.hlk⟩, rfl, X.fr.app hQ.1, hQ.2.1, Nat.le_refl _⟩ (Y.trans hS' (Nat.le_trans X.hkk (X.eh ▸ hgr))) hQ.2.2.2)
end StepsW
end Jvm.RoadKit
namespace Jvm.RoadKit
theorem own_eqI {args : Array Value} {first s : State} {o : Option Outcome} {idx : List Nat} {a b : Term} {x y : Int32} (ha : a.eval args first o idx s = some (.int x)) (hb : b.eval args first o idx s = some (.int y)) : (Cond.eq a b).value args first o s idx = some (decide (x = y)) := by simp [Cond.value, ha, hb]
end Jvm.RoadKit
namespace Jvm.Pilot.@@N@@
open Jvm Jvm.ClassFile Sem Op Lib Jvm.Free Jvm.Stand Jvm.LawKit Jvm.RoadKit Bundle Jvm.Pilot.@@N@@.Jvm.D
theorem own_nar_c (x : Int32) : nar .char (x.toUInt32.toUInt16.toUInt32.toInt32) = x.toUInt32.toUInt16.toUInt32.toInt32 := by
  show ((x.toUInt32.toUInt16.toUInt32.toInt32).toUInt32.toUInt16.toUInt32.toInt32) = _
  simp only [UInt32.toUInt32_toInt32, UInt16.toUInt16_toUInt32]
theorem own_nar_b (x : Int32) : nar .byte (x.toInt8.toInt32) = x.toInt8.toInt32 := by
  show (x.toInt8.toInt32).toInt8.toInt32 = _
  simp
theorem own_le255 (x : Int32) : ¬ (255 : Int32) < (x &&& (255 : Int32)).toUInt32.toUInt16.toUInt32.toInt32 := by
  have h := Jvm.Kit.i32_mask x 255 (k := 8) (by decide) (by decide)
  have q := c_i2c (x &&& (255 : Int32))
  rw [Int32.lt_iff_toInt_lt, show (255 : Int32).toInt = 255 from rfl]
  omega
theorem wd_0 {a0 : Array Value} {Z : State} (hw : ∀ d ∈ tables_1, d.before a0 Z = true) : (Jvm.Cond.arrayClass Jvm.ClassFile.FieldType.char).before a0 Z = true := hw _ (List.mem_of_getElem? (i := 0) rfl)
theorem wd_1 {a0 : Array Value} {Z : State} (hw : ∀ d ∈ tables_1, d.before a0 Z = true) : (Jvm.Cond.classLink "com/example/bounded_lock/boundedlock/engine/LeaseWithTtlMsPinLaw" (7 : Nat) "java/lang/String").before a0 Z = true := hw _ (List.mem_of_getElem? (i := 1) rfl)
theorem wd_2 {a0 : Array Value} {Z : State} (hw : ∀ d ∈ tables_1, d.before a0 Z = true) : (Jvm.Cond.instantiable "java/lang/String" (4 : Nat)).before a0 Z = true := hw _ (List.mem_of_getElem? (i := 2) rfl)
theorem wd_3 {a0 : Array Value} {Z : State} (hw : ∀ d ∈ tables_1, d.before a0 Z = true) : (Jvm.Cond.initialized "java/lang/String").before a0 Z = true := hw _ (List.mem_of_getElem? (i := 3) rfl)
theorem wd_4 {a0 : Array Value} {Z : State} (hw : ∀ d ∈ tables_1, d.before a0 Z = true) : (Jvm.Cond.methodLink "com/example/bounded_lock/boundedlock/engine/LeaseWithTtlMsPinLaw" (9 : Nat) ({ cls := "java/lang/String", name := "<init>", desc := "([C)V" } : Jvm.MethodName)).before a0 Z = true := hw _ (List.mem_of_getElem? (i := 4) rfl)
theorem wd_5 {a0 : Array Value} {Z : State} (hw : ∀ d ∈ tables_1, d.before a0 Z = true) : (Jvm.Cond.instanceMethod ({ cls := "java/lang/String", name := "<init>", desc := "([C)V" } : Jvm.MethodName)).before a0 Z = true := hw _ (List.mem_of_getElem? (i := 5) rfl)
theorem wd_6 {a0 : Array Value} {Z : State} (hw : ∀ d ∈ tables_1, d.before a0 Z = true) : (Jvm.Cond.code ({ cls := "java/lang/String", name := "<init>", desc := "([C)V" } : Jvm.MethodName) jdk_42_method_3_code (2 : Nat) (Option.none : Option Jvm.ClassFile.FieldType)).before a0 Z = true := hw _ (List.mem_of_getElem? (i := 6) rfl)
theorem wd_7 {a0 : Array Value} {Z : State} (hw : ∀ d ∈ tables_1, d.before a0 Z = true) : (Jvm.Cond.methodLink "java/lang/String" (27 : Nat) ({ cls := "java/lang/String", name := "<init>", desc := "([CIILjava/lang/Void;)V" } : Jvm.MethodName)).before a0 Z = true := hw _ (List.mem_of_getElem? (i := 7) rfl)
theorem wd_8 {a0 : Array Value} {Z : State} (hw : ∀ d ∈ tables_1, d.before a0 Z = true) : (Jvm.Cond.instanceMethod ({ cls := "java/lang/String", name := "<init>", desc := "([CIILjava/lang/Void;)V" } : Jvm.MethodName)).before a0 Z = true := hw _ (List.mem_of_getElem? (i := 8) rfl)
theorem wd_10 {a0 : Array Value} {Z : State} (hw : ∀ d ∈ tables_1, d.before a0 Z = true) : (Jvm.Cond.code ({ cls := "java/lang/String", name := "<init>", desc := "([CIILjava/lang/Void;)V" } : Jvm.MethodName) jdk_42_method_149_code (6 : Nat) (Option.none : Option Jvm.ClassFile.FieldType)).before a0 Z = true := hw _ (List.mem_of_getElem? (i := 10) rfl)
theorem wd_11 {a0 : Array Value} {Z : State} (hw : ∀ d ∈ tables_1, d.before a0 Z = true) : (Jvm.Cond.methodLink "java/lang/String" (1 : Nat) ({ cls := "java/lang/Object", name := "<init>", desc := "()V" } : Jvm.MethodName)).before a0 Z = true := hw _ (List.mem_of_getElem? (i := 11) rfl)
theorem wd_12 {a0 : Array Value} {Z : State} (hw : ∀ d ∈ tables_1, d.before a0 Z = true) : (Jvm.Cond.instanceMethod ({ cls := "java/lang/Object", name := "<init>", desc := "()V" } : Jvm.MethodName)).before a0 Z = true := hw _ (List.mem_of_getElem? (i := 12) rfl)
theorem wd_13 {a0 : Array Value} {Z : State} (hw : ∀ d ∈ tables_1, d.before a0 Z = true) : (Jvm.Cond.code ({ cls := "java/lang/Object", name := "<init>", desc := "()V" } : Jvm.MethodName) object_method_1_code (1 : Nat) (Option.none : Option Jvm.ClassFile.FieldType)).before a0 Z = true := hw _ (List.mem_of_getElem? (i := 13) rfl)
theorem wd_14 {a0 : Array Value} {Z : State} (hw : ∀ d ∈ tables_1, d.before a0 Z = true) : (Jvm.Cond.fieldLink "java/lang/String" (38 : Nat) "java/lang/String" "COMPACT_STRINGS" "Z").before a0 Z = true := hw _ (List.mem_of_getElem? (i := 14) rfl)
theorem wd_15 {a0 : Array Value} {Z : State} (hw : ∀ d ∈ tables_1, d.before a0 Z = true) : (Jvm.Cond.methodLink "java/lang/String" (177 : Nat) ({ cls := "java/lang/StringUTF16", name := "compress", desc := "([CII)[B" } : Jvm.MethodName)).before a0 Z = true := hw _ (List.mem_of_getElem? (i := 15) rfl)
theorem wd_16 {a0 : Array Value} {Z : State} (hw : ∀ d ∈ tables_1, d.before a0 Z = true) : (Jvm.Cond.static ({ cls := "java/lang/StringUTF16", name := "compress", desc := "([CII)[B" } : Jvm.MethodName)).before a0 Z = true := hw _ (List.mem_of_getElem? (i := 16) rfl)
theorem wd_17 {a0 : Array Value} {Z : State} (hw : ∀ d ∈ tables_1, d.before a0 Z = true) : (Jvm.Cond.initialized "java/lang/StringUTF16").before a0 Z = true := hw _ (List.mem_of_getElem? (i := 17) rfl)
theorem wd_18 {a0 : Array Value} {Z : State} (hw : ∀ d ∈ tables_1, d.before a0 Z = true) : (Jvm.Cond.code ({ cls := "java/lang/StringUTF16", name := "compress", desc := "([CII)[B" } : Jvm.MethodName) jdk_52_method_16_code (6 : Nat) (Option.some (Jvm.ClassFile.FieldType.array Jvm.ClassFile.FieldType.byte))).before a0 Z = true := hw _ (List.mem_of_getElem? (i := 18) rfl)
theorem wd_19 {a0 : Array Value} {Z : State} (hw : ∀ d ∈ tables_1, d.before a0 Z = true) : (Jvm.Cond.arrayClass Jvm.ClassFile.FieldType.byte).before a0 Z = true := hw _ (List.mem_of_getElem? (i := 19) rfl)
theorem wd_20 {a0 : Array Value} {Z : State} (hw : ∀ d ∈ tables_1, d.before a0 Z = true) : (Jvm.Cond.methodLink "java/lang/StringUTF16" (115 : Nat) ({ cls := "java/lang/StringUTF16", name := "compress", desc := "([CI[BII)I" } : Jvm.MethodName)).before a0 Z = true := hw _ (List.mem_of_getElem? (i := 20) rfl)
theorem wd_21 {a0 : Array Value} {Z : State} (hw : ∀ d ∈ tables_1, d.before a0 Z = true) : (Jvm.Cond.static ({ cls := "java/lang/StringUTF16", name := "compress", desc := "([CI[BII)I" } : Jvm.MethodName)).before a0 Z = true := hw _ (List.mem_of_getElem? (i := 21) rfl)
theorem wd_22 {a0 : Array Value} {Z : State} (hw : ∀ d ∈ tables_1, d.before a0 Z = true) : (Jvm.Cond.code ({ cls := "java/lang/StringUTF16", name := "compress", desc := "([CI[BII)I" } : Jvm.MethodName) jdk_52_method_21_code (7 : Nat) (Option.some Jvm.ClassFile.FieldType.int)).before a0 Z = true := hw _ (List.mem_of_getElem? (i := 22) rfl)
theorem wd_23 {a0 : Array Value} {Z : State} (hw : ∀ d ∈ tables_1, d.before a0 Z = true) : (Jvm.Cond.methodLink "java/lang/String" (47 : Nat) ({ cls := "java/lang/StringUTF16", name := "coderFromArrayLen", desc := "([BI)B" } : Jvm.MethodName)).before a0 Z = true := hw _ (List.mem_of_getElem? (i := 23) rfl)
theorem wd_24 {a0 : Array Value} {Z : State} (hw : ∀ d ∈ tables_1, d.before a0 Z = true) : (Jvm.Cond.static ({ cls := "java/lang/StringUTF16", name := "coderFromArrayLen", desc := "([BI)B" } : Jvm.MethodName)).before a0 Z = true := hw _ (List.mem_of_getElem? (i := 24) rfl)
theorem wd_25 {a0 : Array Value} {Z : State} (hw : ∀ d ∈ tables_1, d.before a0 Z = true) : (Jvm.Cond.code ({ cls := "java/lang/StringUTF16", name := "coderFromArrayLen", desc := "([BI)B" } : Jvm.MethodName) jdk_52_method_15_code (2 : Nat) (Option.some Jvm.ClassFile.FieldType.byte)).before a0 Z = true := hw _ (List.mem_of_getElem? (i := 25) rfl)
theorem wd_26 {a0 : Array Value} {Z : State} (hw : ∀ d ∈ tables_1, d.before a0 Z = true) : (Jvm.Cond.fieldLink "java/lang/String" (15 : Nat) "java/lang/String" "coder" "B").before a0 Z = true := hw _ (List.mem_of_getElem? (i := 26) rfl)
theorem wd_27 {a0 : Array Value} {Z : State} (hw : ∀ d ∈ tables_1, d.before a0 Z = true) : (Jvm.Cond.laysFinal "java/lang/String" "java/lang/String" "coder" "B").before a0 Z = true := hw _ (List.mem_of_getElem? (i := 27) rfl)
theorem wd_28 {a0 : Array Value} {Z : State} (hw : ∀ d ∈ tables_1, d.before a0 Z = true) : (Jvm.Cond.fieldLink "java/lang/String" (9 : Nat) "java/lang/String" "value" "[B").before a0 Z = true := hw _ (List.mem_of_getElem? (i := 28) rfl)
theorem wd_29 {a0 : Array Value} {Z : State} (hw : ∀ d ∈ tables_1, d.before a0 Z = true) : (Jvm.Cond.laysFinal "java/lang/String" "java/lang/String" "value" "[B").before a0 Z = true := hw _ (List.mem_of_getElem? (i := 29) rfl)
theorem wd_30 {a0 : Array Value} {Z : State} (hw : ∀ d ∈ tables_1, d.before a0 Z = true) : (Jvm.Cond.methodLink "com/example/bounded_lock/boundedlock/engine/LeaseWithTtlMsPinLaw" (14 : Nat) ({ cls := "java/lang/String", name := "valueOf", desc := "(C)Ljava/lang/String;" } : Jvm.MethodName)).before a0 Z = true := hw _ (List.mem_of_getElem? (i := 30) rfl)
theorem wd_31 {a0 : Array Value} {Z : State} (hw : ∀ d ∈ tables_1, d.before a0 Z = true) : (Jvm.Cond.static ({ cls := "java/lang/String", name := "valueOf", desc := "(C)Ljava/lang/String;" } : Jvm.MethodName)).before a0 Z = true := hw _ (List.mem_of_getElem? (i := 31) rfl)
theorem wd_32 {a0 : Array Value} {Z : State} (hw : ∀ d ∈ tables_1, d.before a0 Z = true) : (Jvm.Cond.code ({ cls := "java/lang/String", name := "valueOf", desc := "(C)Ljava/lang/String;" } : Jvm.MethodName) jdk_42_method_139_code (1 : Nat) (Option.some (Jvm.ClassFile.FieldType.object "java/lang/String"))).before a0 Z = true := hw _ (List.mem_of_getElem? (i := 32) rfl)
theorem wd_33 {a0 : Array Value} {Z : State} (hw : ∀ d ∈ tables_1, d.before a0 Z = true) : (Jvm.Cond.methodLink "java/lang/String" (1015 : Nat) ({ cls := "java/lang/StringLatin1", name := "canEncode", desc := "(C)Z" } : Jvm.MethodName)).before a0 Z = true := hw _ (List.mem_of_getElem? (i := 33) rfl)
theorem wd_34 {a0 : Array Value} {Z : State} (hw : ∀ d ∈ tables_1, d.before a0 Z = true) : (Jvm.Cond.static ({ cls := "java/lang/StringLatin1", name := "canEncode", desc := "(C)Z" } : Jvm.MethodName)).before a0 Z = true := hw _ (List.mem_of_getElem? (i := 34) rfl)
theorem wd_35 {a0 : Array Value} {Z : State} (hw : ∀ d ∈ tables_1, d.before a0 Z = true) : (Jvm.Cond.initialized "java/lang/StringLatin1").before a0 Z = true := hw _ (List.mem_of_getElem? (i := 35) rfl)
theorem wd_36 {a0 : Array Value} {Z : State} (hw : ∀ d ∈ tables_1, d.before a0 Z = true) : (Jvm.Cond.code ({ cls := "java/lang/StringLatin1", name := "canEncode", desc := "(C)Z" } : Jvm.MethodName) jdk_43_method_3_code (1 : Nat) (Option.some Jvm.ClassFile.FieldType.boolean)).before a0 Z = true := hw _ (List.mem_of_getElem? (i := 36) rfl)
theorem wd_37 {a0 : Array Value} {Z : State} (hw : ∀ d ∈ tables_1, d.before a0 Z = true) : (Jvm.Cond.classLink "java/lang/String" (10 : Nat) "java/lang/String").before a0 Z = true := hw _ (List.mem_of_getElem? (i := 37) rfl)
theorem wd_38 {a0 : Array Value} {Z : State} (hw : ∀ d ∈ tables_1, d.before a0 Z = true) : (Jvm.Cond.methodLink "java/lang/String" (1018 : Nat) ({ cls := "java/lang/StringLatin1", name := "toBytes", desc := "(C)[B" } : Jvm.MethodName)).before a0 Z = true := hw _ (List.mem_of_getElem? (i := 38) rfl)
theorem wd_39 {a0 : Array Value} {Z : State} (hw : ∀ d ∈ tables_1, d.before a0 Z = true) : (Jvm.Cond.static ({ cls := "java/lang/StringLatin1", name := "toBytes", desc := "(C)[B" } : Jvm.MethodName)).before a0 Z = true := hw _ (List.mem_of_getElem? (i := 39) rfl)
theorem wd_40 {a0 : Array Value} {Z : State} (hw : ∀ d ∈ tables_1, d.before a0 Z = true) : (Jvm.Cond.code ({ cls := "java/lang/StringLatin1", name := "toBytes", desc := "(C)[B" } : Jvm.MethodName) jdk_43_method_46_code (1 : Nat) (Option.some (Jvm.ClassFile.FieldType.array Jvm.ClassFile.FieldType.byte))).before a0 Z = true := hw _ (List.mem_of_getElem? (i := 40) rfl)
theorem wd_41 {a0 : Array Value} {Z : State} (hw : ∀ d ∈ tables_1, d.before a0 Z = true) : (Jvm.Cond.methodLink "java/lang/String" (209 : Nat) ({ cls := "java/lang/String", name := "<init>", desc := "([BB)V" } : Jvm.MethodName)).before a0 Z = true := hw _ (List.mem_of_getElem? (i := 41) rfl)
theorem wd_42 {a0 : Array Value} {Z : State} (hw : ∀ d ∈ tables_1, d.before a0 Z = true) : (Jvm.Cond.instanceMethod ({ cls := "java/lang/String", name := "<init>", desc := "([BB)V" } : Jvm.MethodName)).before a0 Z = true := hw _ (List.mem_of_getElem? (i := 42) rfl)
theorem wd_43 {a0 : Array Value} {Z : State} (hw : ∀ d ∈ tables_1, d.before a0 Z = true) : (Jvm.Cond.code ({ cls := "java/lang/String", name := "<init>", desc := "([BB)V" } : Jvm.MethodName) jdk_42_method_151_code (3 : Nat) (Option.none : Option Jvm.ClassFile.FieldType)).before a0 Z = true := hw _ (List.mem_of_getElem? (i := 43) rfl)
theorem wd_44 {a0 : Array Value} {Z : State} (hw : ∀ d ∈ tables_1, d.before a0 Z = true) : (Jvm.Cond.classLink "com/example/bounded_lock/boundedlock/engine/LeaseWithTtlMsPinLaw" (18 : Nat) "com/example/bounded_lock/boundedlock/engine/SemaphoreName").before a0 Z = true := hw _ (List.mem_of_getElem? (i := 44) rfl)
theorem wd_45 {a0 : Array Value} {Z : State} (hw : ∀ d ∈ tables_1, d.before a0 Z = true) : (Jvm.Cond.instantiable "com/example/bounded_lock/boundedlock/engine/SemaphoreName" (1 : Nat)).before a0 Z = true := hw _ (List.mem_of_getElem? (i := 45) rfl)
theorem wd_46 {a0 : Array Value} {Z : State} (hw : ∀ d ∈ tables_1, d.before a0 Z = true) : (Jvm.Cond.initialized "com/example/bounded_lock/boundedlock/engine/SemaphoreName").before a0 Z = true := hw _ (List.mem_of_getElem? (i := 46) rfl)
theorem wd_47 {a0 : Array Value} {Z : State} (hw : ∀ d ∈ tables_1, d.before a0 Z = true) : (Jvm.Cond.stringLink "com/example/bounded_lock/boundedlock/engine/LeaseWithTtlMsPinLaw" (20 : Nat) "jobs").before a0 Z = true := hw _ (List.mem_of_getElem? (i := 47) rfl)
theorem wd_48 {a0 : Array Value} {Z : State} (hw : ∀ d ∈ tables_1, d.before a0 Z = true) : (Jvm.Cond.soleField "java/lang/String" "value").before a0 Z = true := hw _ (List.mem_of_getElem? (i := 48) rfl)
theorem wd_49 {a0 : Array Value} {Z : State} (hw : ∀ d ∈ tables_1, d.before a0 Z = true) : (Jvm.Cond.soleField "java/lang/String" "coder").before a0 Z = true := hw _ (List.mem_of_getElem? (i := 49) rfl)
theorem wd_50 {a0 : Array Value} {Z : State} (hw : ∀ d ∈ tables_1, d.before a0 Z = true) : (Jvm.Cond.methodLink "com/example/bounded_lock/boundedlock/engine/LeaseWithTtlMsPinLaw" (22 : Nat) ({ cls := "com/example/bounded_lock/boundedlock/engine/SemaphoreName", name := "<init>", desc := "(Ljava/lang/String;)V" } : Jvm.MethodName)).before a0 Z = true := hw _ (List.mem_of_getElem? (i := 50) rfl)
theorem wd_51 {a0 : Array Value} {Z : State} (hw : ∀ d ∈ tables_1, d.before a0 Z = true) : (Jvm.Cond.instanceMethod ({ cls := "com/example/bounded_lock/boundedlock/engine/SemaphoreName", name := "<init>", desc := "(Ljava/lang/String;)V" } : Jvm.MethodName)).before a0 Z = true := hw _ (List.mem_of_getElem? (i := 51) rfl)
theorem wd_52 {a0 : Array Value} {Z : State} (hw : ∀ d ∈ tables_1, d.before a0 Z = true) : (Jvm.Cond.code ({ cls := "com/example/bounded_lock/boundedlock/engine/SemaphoreName", name := "<init>", desc := "(Ljava/lang/String;)V" } : Jvm.MethodName) prog_12_method_1_code (3 : Nat) (Option.none : Option Jvm.ClassFile.FieldType)).before a0 Z = true := hw _ (List.mem_of_getElem? (i := 52) rfl)
theorem wd_53 {a0 : Array Value} {Z : State} (hw : ∀ d ∈ tables_1, d.before a0 Z = true) : (Jvm.Cond.methodLink "com/example/bounded_lock/boundedlock/engine/SemaphoreName" (3 : Nat) ({ cls := "java/lang/Record", name := "<init>", desc := "()V" } : Jvm.MethodName)).before a0 Z = true := hw _ (List.mem_of_getElem? (i := 53) rfl)
theorem wd_54 {a0 : Array Value} {Z : State} (hw : ∀ d ∈ tables_1, d.before a0 Z = true) : (Jvm.Cond.instanceMethod ({ cls := "java/lang/Record", name := "<init>", desc := "()V" } : Jvm.MethodName)).before a0 Z = true := hw _ (List.mem_of_getElem? (i := 54) rfl)
theorem wd_56 {a0 : Array Value} {Z : State} (hw : ∀ d ∈ tables_1, d.before a0 Z = true) : (Jvm.Cond.initialized "java/lang/Record").before a0 Z = true := hw _ (List.mem_of_getElem? (i := 56) rfl)
theorem wd_57 {a0 : Array Value} {Z : State} (hw : ∀ d ∈ tables_1, d.before a0 Z = true) : (Jvm.Cond.code ({ cls := "java/lang/Record", name := "<init>", desc := "()V" } : Jvm.MethodName) jdk_30_method_1_code (1 : Nat) (Option.none : Option Jvm.ClassFile.FieldType)).before a0 Z = true := hw _ (List.mem_of_getElem? (i := 57) rfl)
theorem wd_58 {a0 : Array Value} {Z : State} (hw : ∀ d ∈ tables_1, d.before a0 Z = true) : (Jvm.Cond.methodLink "java/lang/Record" (1 : Nat) ({ cls := "java/lang/Object", name := "<init>", desc := "()V" } : Jvm.MethodName)).before a0 Z = true := hw _ (List.mem_of_getElem? (i := 58) rfl)
theorem wd_59 {a0 : Array Value} {Z : State} (hw : ∀ d ∈ tables_1, d.before a0 Z = true) : (Jvm.Cond.stringLink "com/example/bounded_lock/boundedlock/engine/SemaphoreName" (9 : Nat) "value").before a0 Z = true := hw _ (List.mem_of_getElem? (i := 59) rfl)
theorem wd_60 {a0 : Array Value} {Z : State} (hw : ∀ d ∈ tables_1, d.before a0 Z = true) : (Jvm.Cond.methodLink "com/example/bounded_lock/boundedlock/engine/SemaphoreName" (11 : Nat) ({ cls := "java/util/Objects", name := "requireNonNull", desc := "(Ljava/lang/Object;Ljava/lang/String;)Ljava/lang/Object;" } : Jvm.MethodName)).before a0 Z = true := hw _ (List.mem_of_getElem? (i := 60) rfl)
theorem wd_61 {a0 : Array Value} {Z : State} (hw : ∀ d ∈ tables_1, d.before a0 Z = true) : (Jvm.Cond.static ({ cls := "java/util/Objects", name := "requireNonNull", desc := "(Ljava/lang/Object;Ljava/lang/String;)Ljava/lang/Object;" } : Jvm.MethodName)).before a0 Z = true := hw _ (List.mem_of_getElem? (i := 61) rfl)
theorem wd_62 {a0 : Array Value} {Z : State} (hw : ∀ d ∈ tables_1, d.before a0 Z = true) : (Jvm.Cond.initialized "java/util/Objects").before a0 Z = true := hw _ (List.mem_of_getElem? (i := 62) rfl)
theorem wd_63 {a0 : Array Value} {Z : State} (hw : ∀ d ∈ tables_1, d.before a0 Z = true) : (Jvm.Cond.code ({ cls := "java/util/Objects", name := "requireNonNull", desc := "(Ljava/lang/Object;Ljava/lang/String;)Ljava/lang/Object;" } : Jvm.MethodName) jdk_31_method_11_code (2 : Nat) (Option.some (Jvm.ClassFile.FieldType.object "java/lang/Object"))).before a0 Z = true := hw _ (List.mem_of_getElem? (i := 63) rfl)
theorem wd_64 {a0 : Array Value} {Z : State} (hw : ∀ d ∈ tables_1, d.before a0 Z = true) : (Jvm.Cond.methodLink "com/example/bounded_lock/boundedlock/engine/SemaphoreName" (17 : Nat) ({ cls := "java/lang/String", name := "length", desc := "()I" } : Jvm.MethodName)).before a0 Z = true := hw _ (List.mem_of_getElem? (i := 64) rfl)
theorem wd_65 {a0 : Array Value} {Z : State} (hw : ∀ d ∈ tables_1, d.before a0 Z = true) : (Jvm.Cond.declares ({ cls := "java/lang/String", name := "length", desc := "()I" } : Jvm.MethodName)).before a0 Z = true := hw _ (List.mem_of_getElem? (i := 65) rfl)
theorem wd_66 {a0 : Array Value} {Z : State} (hw : ∀ d ∈ tables_1, d.before a0 Z = true) : (Jvm.Cond.instanceMethod ({ cls := "java/lang/String", name := "length", desc := "()I" } : Jvm.MethodName)).before a0 Z = true := hw _ (List.mem_of_getElem? (i := 66) rfl)
theorem wd_67 {a0 : Array Value} {Z : State} (hw : ∀ d ∈ tables_1, d.before a0 Z = true) : (Jvm.Cond.selects "java/lang/String" ({ cls := "java/lang/String", name := "length", desc := "()I" } : Jvm.MethodName) ({ cls := "java/lang/String", name := "length", desc := "()I" } : Jvm.MethodName)).before a0 Z = true := hw _ (List.mem_of_getElem? (i := 67) rfl)
theorem wd_68 {a0 : Array Value} {Z : State} (hw : ∀ d ∈ tables_1, d.before a0 Z = true) : (Jvm.Cond.code ({ cls := "java/lang/String", name := "length", desc := "()I" } : Jvm.MethodName) jdk_42_method_54_code (1 : Nat) (Option.some Jvm.ClassFile.FieldType.int)).before a0 Z = true := hw _ (List.mem_of_getElem? (i := 68) rfl)
theorem wd_69 {a0 : Array Value} {Z : State} (hw : ∀ d ∈ tables_1, d.before a0 Z = true) : (Jvm.Cond.methodLink "java/lang/String" (335 : Nat) ({ cls := "java/lang/String", name := "coder", desc := "()B" } : Jvm.MethodName)).before a0 Z = true := hw _ (List.mem_of_getElem? (i := 69) rfl)
theorem wd_70 {a0 : Array Value} {Z : State} (hw : ∀ d ∈ tables_1, d.before a0 Z = true) : (Jvm.Cond.declares ({ cls := "java/lang/String", name := "coder", desc := "()B" } : Jvm.MethodName)).before a0 Z = true := hw _ (List.mem_of_getElem? (i := 70) rfl)
theorem wd_71 {a0 : Array Value} {Z : State} (hw : ∀ d ∈ tables_1, d.before a0 Z = true) : (Jvm.Cond.instanceMethod ({ cls := "java/lang/String", name := "coder", desc := "()B" } : Jvm.MethodName)).before a0 Z = true := hw _ (List.mem_of_getElem? (i := 71) rfl)
theorem wd_72 {a0 : Array Value} {Z : State} (hw : ∀ d ∈ tables_1, d.before a0 Z = true) : (Jvm.Cond.selects "java/lang/String" ({ cls := "java/lang/String", name := "coder", desc := "()B" } : Jvm.MethodName) ({ cls := "java/lang/String", name := "coder", desc := "()B" } : Jvm.MethodName)).before a0 Z = true := hw _ (List.mem_of_getElem? (i := 72) rfl)
theorem wd_73 {a0 : Array Value} {Z : State} (hw : ∀ d ∈ tables_1, d.before a0 Z = true) : (Jvm.Cond.code ({ cls := "java/lang/String", name := "coder", desc := "()B" } : Jvm.MethodName) jdk_42_method_152_code (1 : Nat) (Option.some Jvm.ClassFile.FieldType.byte)).before a0 Z = true := hw _ (List.mem_of_getElem? (i := 73) rfl)
theorem wd_74 {a0 : Array Value} {Z : State} (hw : ∀ d ∈ tables_1, d.before a0 Z = true) : (Jvm.Cond.methodLink "com/example/bounded_lock/boundedlock/engine/SemaphoreName" (23 : Nat) ({ cls := "java/lang/String", name := "charAt", desc := "(I)C" } : Jvm.MethodName)).before a0 Z = true := hw _ (List.mem_of_getElem? (i := 74) rfl)
theorem wd_75 {a0 : Array Value} {Z : State} (hw : ∀ d ∈ tables_1, d.before a0 Z = true) : (Jvm.Cond.declares ({ cls := "java/lang/String", name := "charAt", desc := "(I)C" } : Jvm.MethodName)).before a0 Z = true := hw _ (List.mem_of_getElem? (i := 75) rfl)
theorem wd_76 {a0 : Array Value} {Z : State} (hw : ∀ d ∈ tables_1, d.before a0 Z = true) : (Jvm.Cond.instanceMethod ({ cls := "java/lang/String", name := "charAt", desc := "(I)C" } : Jvm.MethodName)).before a0 Z = true := hw _ (List.mem_of_getElem? (i := 76) rfl)
theorem wd_77 {a0 : Array Value} {Z : State} (hw : ∀ d ∈ tables_1, d.before a0 Z = true) : (Jvm.Cond.selects "java/lang/String" ({ cls := "java/lang/String", name := "charAt", desc := "(I)C" } : Jvm.MethodName) ({ cls := "java/lang/String", name := "charAt", desc := "(I)C" } : Jvm.MethodName)).before a0 Z = true := hw _ (List.mem_of_getElem? (i := 77) rfl)
theorem wd_78 {a0 : Array Value} {Z : State} (hw : ∀ d ∈ tables_1, d.before a0 Z = true) : (Jvm.Cond.code ({ cls := "java/lang/String", name := "charAt", desc := "(I)C" } : Jvm.MethodName) jdk_42_method_56_code (2 : Nat) (Option.some Jvm.ClassFile.FieldType.char)).before a0 Z = true := hw _ (List.mem_of_getElem? (i := 78) rfl)
theorem wd_79 {a0 : Array Value} {Z : State} (hw : ∀ d ∈ tables_1, d.before a0 Z = true) : (Jvm.Cond.methodLink "java/lang/String" (492 : Nat) ({ cls := "java/lang/String", name := "isLatin1", desc := "()Z" } : Jvm.MethodName)).before a0 Z = true := hw _ (List.mem_of_getElem? (i := 79) rfl)
theorem wd_80 {a0 : Array Value} {Z : State} (hw : ∀ d ∈ tables_1, d.before a0 Z = true) : (Jvm.Cond.declares ({ cls := "java/lang/String", name := "isLatin1", desc := "()Z" } : Jvm.MethodName)).before a0 Z = true := hw _ (List.mem_of_getElem? (i := 80) rfl)
theorem wd_81 {a0 : Array Value} {Z : State} (hw : ∀ d ∈ tables_1, d.before a0 Z = true) : (Jvm.Cond.instanceMethod ({ cls := "java/lang/String", name := "isLatin1", desc := "()Z" } : Jvm.MethodName)).before a0 Z = true := hw _ (List.mem_of_getElem? (i := 81) rfl)
theorem wd_82 {a0 : Array Value} {Z : State} (hw : ∀ d ∈ tables_1, d.before a0 Z = true) : (Jvm.Cond.selects "java/lang/String" ({ cls := "java/lang/String", name := "isLatin1", desc := "()Z" } : Jvm.MethodName) ({ cls := "java/lang/String", name := "isLatin1", desc := "()Z" } : Jvm.MethodName)).before a0 Z = true := hw _ (List.mem_of_getElem? (i := 82) rfl)
theorem wd_83 {a0 : Array Value} {Z : State} (hw : ∀ d ∈ tables_1, d.before a0 Z = true) : (Jvm.Cond.code ({ cls := "java/lang/String", name := "isLatin1", desc := "()Z" } : Jvm.MethodName) jdk_42_method_154_code (1 : Nat) (Option.some Jvm.ClassFile.FieldType.boolean)).before a0 Z = true := hw _ (List.mem_of_getElem? (i := 83) rfl)
theorem wd_84 {a0 : Array Value} {Z : State} (hw : ∀ d ∈ tables_1, d.before a0 Z = true) : (Jvm.Cond.methodLink "java/lang/String" (495 : Nat) ({ cls := "java/lang/StringLatin1", name := "charAt", desc := "([BI)C" } : Jvm.MethodName)).before a0 Z = true := hw _ (List.mem_of_getElem? (i := 84) rfl)
theorem wd_85 {a0 : Array Value} {Z : State} (hw : ∀ d ∈ tables_1, d.before a0 Z = true) : (Jvm.Cond.static ({ cls := "java/lang/StringLatin1", name := "charAt", desc := "([BI)C" } : Jvm.MethodName)).before a0 Z = true := hw _ (List.mem_of_getElem? (i := 85) rfl)
theorem wd_86 {a0 : Array Value} {Z : State} (hw : ∀ d ∈ tables_1, d.before a0 Z = true) : (Jvm.Cond.code ({ cls := "java/lang/StringLatin1", name := "charAt", desc := "([BI)C" } : Jvm.MethodName) jdk_43_method_2_code (2 : Nat) (Option.some Jvm.ClassFile.FieldType.char)).before a0 Z = true := hw _ (List.mem_of_getElem? (i := 86) rfl)
theorem wd_87 {a0 : Array Value} {Z : State} (hw : ∀ d ∈ tables_1, d.before a0 Z = true) : (Jvm.Cond.methodLink "java/lang/StringLatin1" (9 : Nat) ({ cls := "java/lang/String", name := "checkIndex", desc := "(II)V" } : Jvm.MethodName)).before a0 Z = true := hw _ (List.mem_of_getElem? (i := 87) rfl)
theorem wd_88 {a0 : Array Value} {Z : State} (hw : ∀ d ∈ tables_1, d.before a0 Z = true) : (Jvm.Cond.static ({ cls := "java/lang/String", name := "checkIndex", desc := "(II)V" } : Jvm.MethodName)).before a0 Z = true := hw _ (List.mem_of_getElem? (i := 88) rfl)
theorem wd_89 {a0 : Array Value} {Z : State} (hw : ∀ d ∈ tables_1, d.before a0 Z = true) : (Jvm.Cond.code ({ cls := "java/lang/String", name := "checkIndex", desc := "(II)V" } : Jvm.MethodName) jdk_42_method_155_code (2 : Nat) (Option.none : Option Jvm.ClassFile.FieldType)).before a0 Z = true := hw _ (List.mem_of_getElem? (i := 89) rfl)
theorem wd_90 {a0 : Array Value} {Z : State} (hw : ∀ d ∈ tables_1, d.before a0 Z = true) : (Jvm.Cond.fieldLink "java/lang/String" (1053 : Nat) "jdk/internal/util/Preconditions" "SIOOBE_FORMATTER" "Ljava/util/function/BiFunction;").before a0 Z = true := hw _ (List.mem_of_getElem? (i := 90) rfl)
theorem wd_91 {a0 : Array Value} {Z : State} (hw : ∀ d ∈ tables_1, d.before a0 Z = true) : (Jvm.Cond.initialized "jdk/internal/util/Preconditions").before a0 Z = true := hw _ (List.mem_of_getElem? (i := 91) rfl)
theorem wd_92 {a0 : Array Value} {Z : State} (hw : ∀ d ∈ tables_1, d.before a0 Z = true) : (Jvm.Cond.methodLink "java/lang/String" (1059 : Nat) ({ cls := "jdk/internal/util/Preconditions", name := "checkIndex", desc := "(IILjava/util/function/BiFunction;)I" } : Jvm.MethodName)).before a0 Z = true := hw _ (List.mem_of_getElem? (i := 92) rfl)
theorem wd_93 {a0 : Array Value} {Z : State} (hw : ∀ d ∈ tables_1, d.before a0 Z = true) : (Jvm.Cond.static ({ cls := "jdk/internal/util/Preconditions", name := "checkIndex", desc := "(IILjava/util/function/BiFunction;)I" } : Jvm.MethodName)).before a0 Z = true := hw _ (List.mem_of_getElem? (i := 93) rfl)
theorem wd_94 {a0 : Array Value} {Z : State} (hw : ∀ d ∈ tables_1, d.before a0 Z = true) : (Jvm.Cond.code ({ cls := "jdk/internal/util/Preconditions", name := "checkIndex", desc := "(IILjava/util/function/BiFunction;)I" } : Jvm.MethodName) jdk_41_method_11_code (3 : Nat) (Option.some Jvm.ClassFile.FieldType.int)).before a0 Z = true := hw _ (List.mem_of_getElem? (i := 94) rfl)
theorem wd_95 {a0 : Array Value} {Z : State} (hw : ∀ d ∈ tables_1, d.before a0 Z = true) : (Jvm.Cond.methodLink "com/example/bounded_lock/boundedlock/engine/SemaphoreName" (27 : Nat) ({ cls := "com/example/bounded_lock/boundedlock/engine/SemaphoreName", name := "isNameCharacter", desc := "(C)Z" } : Jvm.MethodName)).before a0 Z = true := hw _ (List.mem_of_getElem? (i := 95) rfl)
theorem wd_96 {a0 : Array Value} {Z : State} (hw : ∀ d ∈ tables_1, d.before a0 Z = true) : (Jvm.Cond.static ({ cls := "com/example/bounded_lock/boundedlock/engine/SemaphoreName", name := "isNameCharacter", desc := "(C)Z" } : Jvm.MethodName)).before a0 Z = true := hw _ (List.mem_of_getElem? (i := 96) rfl)
theorem wd_97 {a0 : Array Value} {Z : State} (hw : ∀ d ∈ tables_1, d.before a0 Z = true) : (Jvm.Cond.code ({ cls := "com/example/bounded_lock/boundedlock/engine/SemaphoreName", name := "isNameCharacter", desc := "(C)Z" } : Jvm.MethodName) prog_12_method_2_code (1 : Nat) (Option.some Jvm.ClassFile.FieldType.boolean)).before a0 Z = true := hw _ (List.mem_of_getElem? (i := 97) rfl)
theorem wd_98 {a0 : Array Value} {Z : State} (hw : ∀ d ∈ tables_1, d.before a0 Z = true) : (Jvm.Cond.methodLink "com/example/bounded_lock/boundedlock/engine/SemaphoreName" (56 : Nat) ({ cls := "java/lang/String", name := "isEmpty", desc := "()Z" } : Jvm.MethodName)).before a0 Z = true := hw _ (List.mem_of_getElem? (i := 98) rfl)
theorem wd_99 {a0 : Array Value} {Z : State} (hw : ∀ d ∈ tables_1, d.before a0 Z = true) : (Jvm.Cond.declares ({ cls := "java/lang/String", name := "isEmpty", desc := "()Z" } : Jvm.MethodName)).before a0 Z = true := hw _ (List.mem_of_getElem? (i := 99) rfl)
theorem wd_100 {a0 : Array Value} {Z : State} (hw : ∀ d ∈ tables_1, d.before a0 Z = true) : (Jvm.Cond.instanceMethod ({ cls := "java/lang/String", name := "isEmpty", desc := "()Z" } : Jvm.MethodName)).before a0 Z = true := hw _ (List.mem_of_getElem? (i := 100) rfl)
theorem wd_101 {a0 : Array Value} {Z : State} (hw : ∀ d ∈ tables_1, d.before a0 Z = true) : (Jvm.Cond.selects "java/lang/String" ({ cls := "java/lang/String", name := "isEmpty", desc := "()Z" } : Jvm.MethodName) ({ cls := "java/lang/String", name := "isEmpty", desc := "()Z" } : Jvm.MethodName)).before a0 Z = true := hw _ (List.mem_of_getElem? (i := 101) rfl)
theorem wd_102 {a0 : Array Value} {Z : State} (hw : ∀ d ∈ tables_1, d.before a0 Z = true) : (Jvm.Cond.code ({ cls := "java/lang/String", name := "isEmpty", desc := "()Z" } : Jvm.MethodName) jdk_42_method_55_code (1 : Nat) (Option.some Jvm.ClassFile.FieldType.boolean)).before a0 Z = true := hw _ (List.mem_of_getElem? (i := 102) rfl)
theorem wd_103 {a0 : Array Value} {Z : State} (hw : ∀ d ∈ tables_1, d.before a0 Z = true) : (Jvm.Cond.fieldLink "com/example/bounded_lock/boundedlock/engine/SemaphoreName" (64 : Nat) "com/example/bounded_lock/boundedlock/engine/SemaphoreName" "value" "Ljava/lang/String;").before a0 Z = true := hw _ (List.mem_of_getElem? (i := 103) rfl)
theorem wd_104 {a0 : Array Value} {Z : State} (hw : ∀ d ∈ tables_1, d.before a0 Z = true) : (Jvm.Cond.laysFinal "com/example/bounded_lock/boundedlock/engine/SemaphoreName" "com/example/bounded_lock/boundedlock/engine/SemaphoreName" "value" "Ljava/lang/String;").before a0 Z = true := hw _ (List.mem_of_getElem? (i := 104) rfl)
theorem wd_105 {a0 : Array Value} {Z : State} (hw : ∀ d ∈ tables_1, d.before a0 Z = true) : (Jvm.Cond.classLink "com/example/bounded_lock/boundedlock/engine/LeaseWithTtlMsPinLaw" (25 : Nat) "com/example/bounded_lock/boundedlock/engine/Lease").before a0 Z = true := hw _ (List.mem_of_getElem? (i := 105) rfl)
theorem wd_106 {a0 : Array Value} {Z : State} (hw : ∀ d ∈ tables_1, d.before a0 Z = true) : (Jvm.Cond.instantiable "com/example/bounded_lock/boundedlock/engine/Lease" (6 : Nat)).before a0 Z = true := hw _ (List.mem_of_getElem? (i := 106) rfl)
theorem wd_107 {a0 : Array Value} {Z : State} (hw : ∀ d ∈ tables_1, d.before a0 Z = true) : (Jvm.Cond.initialized "com/example/bounded_lock/boundedlock/engine/Lease").before a0 Z = true := hw _ (List.mem_of_getElem? (i := 107) rfl)
theorem wd_108 {a0 : Array Value} {Z : State} (hw : ∀ d ∈ tables_1, d.before a0 Z = true) : (Jvm.Cond.methodLink "com/example/bounded_lock/boundedlock/engine/LeaseWithTtlMsPinLaw" (27 : Nat) ({ cls := "com/example/bounded_lock/boundedlock/engine/Lease", name := "<init>", desc := "(Ljava/lang/String;Lcom/example/bounded_lock/boundedlock/engine/SemaphoreName;IJLjava/lang/String;J)V" } : Jvm.MethodName)).before a0 Z = true := hw _ (List.mem_of_getElem? (i := 108) rfl)
theorem wd_109 {a0 : Array Value} {Z : State} (hw : ∀ d ∈ tables_1, d.before a0 Z = true) : (Jvm.Cond.instanceMethod ({ cls := "com/example/bounded_lock/boundedlock/engine/Lease", name := "<init>", desc := "(Ljava/lang/String;Lcom/example/bounded_lock/boundedlock/engine/SemaphoreName;IJLjava/lang/String;J)V" } : Jvm.MethodName)).before a0 Z = true := hw _ (List.mem_of_getElem? (i := 109) rfl)
theorem wd_110 {a0 : Array Value} {Z : State} (hw : ∀ d ∈ tables_1, d.before a0 Z = true) : (Jvm.Cond.code ({ cls := "com/example/bounded_lock/boundedlock/engine/Lease", name := "<init>", desc := "(Ljava/lang/String;Lcom/example/bounded_lock/boundedlock/engine/SemaphoreName;IJLjava/lang/String;J)V" } : Jvm.MethodName) prog_9_method_1_code (9 : Nat) (Option.none : Option Jvm.ClassFile.FieldType)).before a0 Z = true := hw _ (List.mem_of_getElem? (i := 110) rfl)
theorem wd_111 {a0 : Array Value} {Z : State} (hw : ∀ d ∈ tables_1, d.before a0 Z = true) : (Jvm.Cond.methodLink "com/example/bounded_lock/boundedlock/engine/Lease" (1 : Nat) ({ cls := "java/lang/Record", name := "<init>", desc := "()V" } : Jvm.MethodName)).before a0 Z = true := hw _ (List.mem_of_getElem? (i := 111) rfl)
theorem wd_112 {a0 : Array Value} {Z : State} (hw : ∀ d ∈ tables_1, d.before a0 Z = true) : (Jvm.Cond.stringLink "com/example/bounded_lock/boundedlock/engine/Lease" (7 : Nat) "id").before a0 Z = true := hw _ (List.mem_of_getElem? (i := 112) rfl)
theorem wd_113 {a0 : Array Value} {Z : State} (hw : ∀ d ∈ tables_1, d.before a0 Z = true) : (Jvm.Cond.methodLink "com/example/bounded_lock/boundedlock/engine/Lease" (9 : Nat) ({ cls := "java/util/Objects", name := "requireNonNull", desc := "(Ljava/lang/Object;Ljava/lang/String;)Ljava/lang/Object;" } : Jvm.MethodName)).before a0 Z = true := hw _ (List.mem_of_getElem? (i := 113) rfl)
theorem wd_114 {a0 : Array Value} {Z : State} (hw : ∀ d ∈ tables_1, d.before a0 Z = true) : (Jvm.Cond.stringLink "com/example/bounded_lock/boundedlock/engine/Lease" (15 : Nat) "name").before a0 Z = true := hw _ (List.mem_of_getElem? (i := 114) rfl)
theorem wd_115 {a0 : Array Value} {Z : State} (hw : ∀ d ∈ tables_1, d.before a0 Z = true) : (Jvm.Cond.stringLink "com/example/bounded_lock/boundedlock/engine/Lease" (17 : Nat) "owner").before a0 Z = true := hw _ (List.mem_of_getElem? (i := 115) rfl)
theorem wd_116 {a0 : Array Value} {Z : State} (hw : ∀ d ∈ tables_1, d.before a0 Z = true) : (Jvm.Cond.fieldLink "com/example/bounded_lock/boundedlock/engine/Lease" (19 : Nat) "com/example/bounded_lock/boundedlock/engine/Lease" "id" "Ljava/lang/String;").before a0 Z = true := hw _ (List.mem_of_getElem? (i := 116) rfl)
theorem wd_117 {a0 : Array Value} {Z : State} (hw : ∀ d ∈ tables_1, d.before a0 Z = true) : (Jvm.Cond.laysFinal "com/example/bounded_lock/boundedlock/engine/Lease" "com/example/bounded_lock/boundedlock/engine/Lease" "id" "Ljava/lang/String;").before a0 Z = true := hw _ (List.mem_of_getElem? (i := 117) rfl)
theorem wd_118 {a0 : Array Value} {Z : State} (hw : ∀ d ∈ tables_1, d.before a0 Z = true) : (Jvm.Cond.fieldLink "com/example/bounded_lock/boundedlock/engine/Lease" (24 : Nat) "com/example/bounded_lock/boundedlock/engine/Lease" "name" "Lcom/example/bounded_lock/boundedlock/engine/SemaphoreName;").before a0 Z = true := hw _ (List.mem_of_getElem? (i := 118) rfl)
theorem wd_119 {a0 : Array Value} {Z : State} (hw : ∀ d ∈ tables_1, d.before a0 Z = true) : (Jvm.Cond.laysFinal "com/example/bounded_lock/boundedlock/engine/Lease" "com/example/bounded_lock/boundedlock/engine/Lease" "name" "Lcom/example/bounded_lock/boundedlock/engine/SemaphoreName;").before a0 Z = true := hw _ (List.mem_of_getElem? (i := 119) rfl)
theorem wd_120 {a0 : Array Value} {Z : State} (hw : ∀ d ∈ tables_1, d.before a0 Z = true) : (Jvm.Cond.fieldLink "com/example/bounded_lock/boundedlock/engine/Lease" (27 : Nat) "com/example/bounded_lock/boundedlock/engine/Lease" "permits" "I").before a0 Z = true := hw _ (List.mem_of_getElem? (i := 120) rfl)
theorem wd_121 {a0 : Array Value} {Z : State} (hw : ∀ d ∈ tables_1, d.before a0 Z = true) : (Jvm.Cond.laysFinal "com/example/bounded_lock/boundedlock/engine/Lease" "com/example/bounded_lock/boundedlock/engine/Lease" "permits" "I").before a0 Z = true := hw _ (List.mem_of_getElem? (i := 121) rfl)
theorem wd_122 {a0 : Array Value} {Z : State} (hw : ∀ d ∈ tables_1, d.before a0 Z = true) : (Jvm.Cond.fieldLink "com/example/bounded_lock/boundedlock/engine/Lease" (31 : Nat) "com/example/bounded_lock/boundedlock/engine/Lease" "fence" "J").before a0 Z = true := hw _ (List.mem_of_getElem? (i := 122) rfl)
theorem wd_123 {a0 : Array Value} {Z : State} (hw : ∀ d ∈ tables_1, d.before a0 Z = true) : (Jvm.Cond.laysFinal "com/example/bounded_lock/boundedlock/engine/Lease" "com/example/bounded_lock/boundedlock/engine/Lease" "fence" "J").before a0 Z = true := hw _ (List.mem_of_getElem? (i := 123) rfl)
theorem wd_124 {a0 : Array Value} {Z : State} (hw : ∀ d ∈ tables_1, d.before a0 Z = true) : (Jvm.Cond.fieldLink "com/example/bounded_lock/boundedlock/engine/Lease" (35 : Nat) "com/example/bounded_lock/boundedlock/engine/Lease" "owner" "Ljava/lang/String;").before a0 Z = true := hw _ (List.mem_of_getElem? (i := 124) rfl)
theorem wd_125 {a0 : Array Value} {Z : State} (hw : ∀ d ∈ tables_1, d.before a0 Z = true) : (Jvm.Cond.laysFinal "com/example/bounded_lock/boundedlock/engine/Lease" "com/example/bounded_lock/boundedlock/engine/Lease" "owner" "Ljava/lang/String;").before a0 Z = true := hw _ (List.mem_of_getElem? (i := 125) rfl)
theorem wd_126 {a0 : Array Value} {Z : State} (hw : ∀ d ∈ tables_1, d.before a0 Z = true) : (Jvm.Cond.fieldLink "com/example/bounded_lock/boundedlock/engine/Lease" (37 : Nat) "com/example/bounded_lock/boundedlock/engine/Lease" "ttlMs" "J").before a0 Z = true := hw _ (List.mem_of_getElem? (i := 126) rfl)
theorem wd_127 {a0 : Array Value} {Z : State} (hw : ∀ d ∈ tables_1, d.before a0 Z = true) : (Jvm.Cond.laysFinal "com/example/bounded_lock/boundedlock/engine/Lease" "com/example/bounded_lock/boundedlock/engine/Lease" "ttlMs" "J").before a0 Z = true := hw _ (List.mem_of_getElem? (i := 127) rfl)
theorem wd_128 {a0 : Array Value} {Z : State} (hw : ∀ d ∈ tables_1, d.before a0 Z = true) : (Jvm.Cond.methodLink "com/example/bounded_lock/boundedlock/engine/LeaseWithTtlMsPinLaw" (30 : Nat) ({ cls := "com/example/bounded_lock/boundedlock/engine/Lease", name := "withTtlMs", desc := "(J)Lcom/example/bounded_lock/boundedlock/engine/Lease;" } : Jvm.MethodName)).before a0 Z = true := hw _ (List.mem_of_getElem? (i := 128) rfl)
theorem wd_129 {a0 : Array Value} {Z : State} (hw : ∀ d ∈ tables_1, d.before a0 Z = true) : (Jvm.Cond.declares ({ cls := "com/example/bounded_lock/boundedlock/engine/Lease", name := "withTtlMs", desc := "(J)Lcom/example/bounded_lock/boundedlock/engine/Lease;" } : Jvm.MethodName)).before a0 Z = true := hw _ (List.mem_of_getElem? (i := 129) rfl)
theorem wd_130 {a0 : Array Value} {Z : State} (hw : ∀ d ∈ tables_1, d.before a0 Z = true) : (Jvm.Cond.instanceMethod ({ cls := "com/example/bounded_lock/boundedlock/engine/Lease", name := "withTtlMs", desc := "(J)Lcom/example/bounded_lock/boundedlock/engine/Lease;" } : Jvm.MethodName)).before a0 Z = true := hw _ (List.mem_of_getElem? (i := 130) rfl)
theorem wd_131 {a0 : Array Value} {Z : State} (hw : ∀ d ∈ tables_1, d.before a0 Z = true) : (Jvm.Cond.selects "com/example/bounded_lock/boundedlock/engine/Lease" ({ cls := "com/example/bounded_lock/boundedlock/engine/Lease", name := "withTtlMs", desc := "(J)Lcom/example/bounded_lock/boundedlock/engine/Lease;" } : Jvm.MethodName) ({ cls := "com/example/bounded_lock/boundedlock/engine/Lease", name := "withTtlMs", desc := "(J)Lcom/example/bounded_lock/boundedlock/engine/Lease;" } : Jvm.MethodName)).before a0 Z = true := hw _ (List.mem_of_getElem? (i := 131) rfl)
theorem wd_132 {a0 : Array Value} {Z : State} (hw : ∀ d ∈ tables_1, d.before a0 Z = true) : (Jvm.Cond.code ({ cls := "com/example/bounded_lock/boundedlock/engine/Lease", name := "withTtlMs", desc := "(J)Lcom/example/bounded_lock/boundedlock/engine/Lease;" } : Jvm.MethodName) prog_9_method_2_code (3 : Nat) (Option.some (Jvm.ClassFile.FieldType.object "com/example/bounded_lock/boundedlock/engine/Lease"))).before a0 Z = true := hw _ (List.mem_of_getElem? (i := 132) rfl)
theorem wd_133 {a0 : Array Value} {Z : State} (hw : ∀ d ∈ tables_1, d.before a0 Z = true) : (Jvm.Cond.classLink "com/example/bounded_lock/boundedlock/engine/Lease" (20 : Nat) "com/example/bounded_lock/boundedlock/engine/Lease").before a0 Z = true := hw _ (List.mem_of_getElem? (i := 133) rfl)
theorem wd_134 {a0 : Array Value} {Z : State} (hw : ∀ d ∈ tables_1, d.before a0 Z = true) : (Jvm.Cond.methodLink "com/example/bounded_lock/boundedlock/engine/Lease" (40 : Nat) ({ cls := "com/example/bounded_lock/boundedlock/engine/Lease", name := "<init>", desc := "(Ljava/lang/String;Lcom/example/bounded_lock/boundedlock/engine/SemaphoreName;IJLjava/lang/String;J)V" } : Jvm.MethodName)).before a0 Z = true := hw _ (List.mem_of_getElem? (i := 134) rfl)
theorem wd_135 {a0 : Array Value} {Z : State} (hw : ∀ d ∈ tables_1, d.before a0 Z = true) : (Jvm.Cond.methodLink "com/example/bounded_lock/boundedlock/engine/LeaseWithTtlMsPinLaw" (34 : Nat) ({ cls := "com/example/bounded_lock/boundedlock/engine/Lease", name := "id", desc := "()Ljava/lang/String;" } : Jvm.MethodName)).before a0 Z = true := hw _ (List.mem_of_getElem? (i := 135) rfl)
theorem wd_136 {a0 : Array Value} {Z : State} (hw : ∀ d ∈ tables_1, d.before a0 Z = true) : (Jvm.Cond.declares ({ cls := "com/example/bounded_lock/boundedlock/engine/Lease", name := "id", desc := "()Ljava/lang/String;" } : Jvm.MethodName)).before a0 Z = true := hw _ (List.mem_of_getElem? (i := 136) rfl)
theorem wd_137 {a0 : Array Value} {Z : State} (hw : ∀ d ∈ tables_1, d.before a0 Z = true) : (Jvm.Cond.instanceMethod ({ cls := "com/example/bounded_lock/boundedlock/engine/Lease", name := "id", desc := "()Ljava/lang/String;" } : Jvm.MethodName)).before a0 Z = true := hw _ (List.mem_of_getElem? (i := 137) rfl)
theorem wd_138 {a0 : Array Value} {Z : State} (hw : ∀ d ∈ tables_1, d.before a0 Z = true) : (Jvm.Cond.selects "com/example/bounded_lock/boundedlock/engine/Lease" ({ cls := "com/example/bounded_lock/boundedlock/engine/Lease", name := "id", desc := "()Ljava/lang/String;" } : Jvm.MethodName) ({ cls := "com/example/bounded_lock/boundedlock/engine/Lease", name := "id", desc := "()Ljava/lang/String;" } : Jvm.MethodName)).before a0 Z = true := hw _ (List.mem_of_getElem? (i := 138) rfl)
theorem wd_139 {a0 : Array Value} {Z : State} (hw : ∀ d ∈ tables_1, d.before a0 Z = true) : (Jvm.Cond.code ({ cls := "com/example/bounded_lock/boundedlock/engine/Lease", name := "id", desc := "()Ljava/lang/String;" } : Jvm.MethodName) prog_9_method_6_code (1 : Nat) (Option.some (Jvm.ClassFile.FieldType.object "java/lang/String"))).before a0 Z = true := hw _ (List.mem_of_getElem? (i := 139) rfl)
theorem wd_140 {a0 : Array Value} {Z : State} (hw : ∀ d ∈ tables_1, d.before a0 Z = true) : (Jvm.Cond.methodLink "com/example/bounded_lock/boundedlock/engine/LeaseWithTtlMsPinLaw" (38 : Nat) ({ cls := "com/example/bounded_lock/boundedlock/engine/Lease", name := "name", desc := "()Lcom/example/bounded_lock/boundedlock/engine/SemaphoreName;" } : Jvm.MethodName)).before a0 Z = true := hw _ (List.mem_of_getElem? (i := 140) rfl)
theorem wd_141 {a0 : Array Value} {Z : State} (hw : ∀ d ∈ tables_1, d.before a0 Z = true) : (Jvm.Cond.declares ({ cls := "com/example/bounded_lock/boundedlock/engine/Lease", name := "name", desc := "()Lcom/example/bounded_lock/boundedlock/engine/SemaphoreName;" } : Jvm.MethodName)).before a0 Z = true := hw _ (List.mem_of_getElem? (i := 141) rfl)
theorem wd_142 {a0 : Array Value} {Z : State} (hw : ∀ d ∈ tables_1, d.before a0 Z = true) : (Jvm.Cond.instanceMethod ({ cls := "com/example/bounded_lock/boundedlock/engine/Lease", name := "name", desc := "()Lcom/example/bounded_lock/boundedlock/engine/SemaphoreName;" } : Jvm.MethodName)).before a0 Z = true := hw _ (List.mem_of_getElem? (i := 142) rfl)
theorem wd_143 {a0 : Array Value} {Z : State} (hw : ∀ d ∈ tables_1, d.before a0 Z = true) : (Jvm.Cond.selects "com/example/bounded_lock/boundedlock/engine/Lease" ({ cls := "com/example/bounded_lock/boundedlock/engine/Lease", name := "name", desc := "()Lcom/example/bounded_lock/boundedlock/engine/SemaphoreName;" } : Jvm.MethodName) ({ cls := "com/example/bounded_lock/boundedlock/engine/Lease", name := "name", desc := "()Lcom/example/bounded_lock/boundedlock/engine/SemaphoreName;" } : Jvm.MethodName)).before a0 Z = true := hw _ (List.mem_of_getElem? (i := 143) rfl)
theorem wd_144 {a0 : Array Value} {Z : State} (hw : ∀ d ∈ tables_1, d.before a0 Z = true) : (Jvm.Cond.code ({ cls := "com/example/bounded_lock/boundedlock/engine/Lease", name := "name", desc := "()Lcom/example/bounded_lock/boundedlock/engine/SemaphoreName;" } : Jvm.MethodName) prog_9_method_7_code (1 : Nat) (Option.some (Jvm.ClassFile.FieldType.object "com/example/bounded_lock/boundedlock/engine/SemaphoreName"))).before a0 Z = true := hw _ (List.mem_of_getElem? (i := 144) rfl)
theorem wd_145 {a0 : Array Value} {Z : State} (hw : ∀ d ∈ tables_1, d.before a0 Z = true) : (Jvm.Cond.methodLink "com/example/bounded_lock/boundedlock/engine/LeaseWithTtlMsPinLaw" (42 : Nat) ({ cls := "com/example/bounded_lock/boundedlock/engine/Lease", name := "permits", desc := "()I" } : Jvm.MethodName)).before a0 Z = true := hw _ (List.mem_of_getElem? (i := 145) rfl)
theorem wd_146 {a0 : Array Value} {Z : State} (hw : ∀ d ∈ tables_1, d.before a0 Z = true) : (Jvm.Cond.declares ({ cls := "com/example/bounded_lock/boundedlock/engine/Lease", name := "permits", desc := "()I" } : Jvm.MethodName)).before a0 Z = true := hw _ (List.mem_of_getElem? (i := 146) rfl)
theorem wd_147 {a0 : Array Value} {Z : State} (hw : ∀ d ∈ tables_1, d.before a0 Z = true) : (Jvm.Cond.instanceMethod ({ cls := "com/example/bounded_lock/boundedlock/engine/Lease", name := "permits", desc := "()I" } : Jvm.MethodName)).before a0 Z = true := hw _ (List.mem_of_getElem? (i := 147) rfl)
theorem wd_148 {a0 : Array Value} {Z : State} (hw : ∀ d ∈ tables_1, d.before a0 Z = true) : (Jvm.Cond.selects "com/example/bounded_lock/boundedlock/engine/Lease" ({ cls := "com/example/bounded_lock/boundedlock/engine/Lease", name := "permits", desc := "()I" } : Jvm.MethodName) ({ cls := "com/example/bounded_lock/boundedlock/engine/Lease", name := "permits", desc := "()I" } : Jvm.MethodName)).before a0 Z = true := hw _ (List.mem_of_getElem? (i := 148) rfl)
theorem wd_149 {a0 : Array Value} {Z : State} (hw : ∀ d ∈ tables_1, d.before a0 Z = true) : (Jvm.Cond.code ({ cls := "com/example/bounded_lock/boundedlock/engine/Lease", name := "permits", desc := "()I" } : Jvm.MethodName) prog_9_method_8_code (1 : Nat) (Option.some Jvm.ClassFile.FieldType.int)).before a0 Z = true := hw _ (List.mem_of_getElem? (i := 149) rfl)
theorem wd_150 {a0 : Array Value} {Z : State} (hw : ∀ d ∈ tables_1, d.before a0 Z = true) : (Jvm.Cond.methodLink "com/example/bounded_lock/boundedlock/engine/LeaseWithTtlMsPinLaw" (46 : Nat) ({ cls := "com/example/bounded_lock/boundedlock/engine/Lease", name := "fence", desc := "()J" } : Jvm.MethodName)).before a0 Z = true := hw _ (List.mem_of_getElem? (i := 150) rfl)
theorem wd_151 {a0 : Array Value} {Z : State} (hw : ∀ d ∈ tables_1, d.before a0 Z = true) : (Jvm.Cond.declares ({ cls := "com/example/bounded_lock/boundedlock/engine/Lease", name := "fence", desc := "()J" } : Jvm.MethodName)).before a0 Z = true := hw _ (List.mem_of_getElem? (i := 151) rfl)
theorem wd_152 {a0 : Array Value} {Z : State} (hw : ∀ d ∈ tables_1, d.before a0 Z = true) : (Jvm.Cond.instanceMethod ({ cls := "com/example/bounded_lock/boundedlock/engine/Lease", name := "fence", desc := "()J" } : Jvm.MethodName)).before a0 Z = true := hw _ (List.mem_of_getElem? (i := 152) rfl)
theorem wd_153 {a0 : Array Value} {Z : State} (hw : ∀ d ∈ tables_1, d.before a0 Z = true) : (Jvm.Cond.selects "com/example/bounded_lock/boundedlock/engine/Lease" ({ cls := "com/example/bounded_lock/boundedlock/engine/Lease", name := "fence", desc := "()J" } : Jvm.MethodName) ({ cls := "com/example/bounded_lock/boundedlock/engine/Lease", name := "fence", desc := "()J" } : Jvm.MethodName)).before a0 Z = true := hw _ (List.mem_of_getElem? (i := 153) rfl)
theorem wd_154 {a0 : Array Value} {Z : State} (hw : ∀ d ∈ tables_1, d.before a0 Z = true) : (Jvm.Cond.code ({ cls := "com/example/bounded_lock/boundedlock/engine/Lease", name := "fence", desc := "()J" } : Jvm.MethodName) prog_9_method_9_code (1 : Nat) (Option.some Jvm.ClassFile.FieldType.long)).before a0 Z = true := hw _ (List.mem_of_getElem? (i := 154) rfl)
theorem wd_155 {a0 : Array Value} {Z : State} (hw : ∀ d ∈ tables_1, d.before a0 Z = true) : (Jvm.Cond.methodLink "com/example/bounded_lock/boundedlock/engine/LeaseWithTtlMsPinLaw" (50 : Nat) ({ cls := "com/example/bounded_lock/boundedlock/engine/Lease", name := "owner", desc := "()Ljava/lang/String;" } : Jvm.MethodName)).before a0 Z = true := hw _ (List.mem_of_getElem? (i := 155) rfl)
theorem wd_156 {a0 : Array Value} {Z : State} (hw : ∀ d ∈ tables_1, d.before a0 Z = true) : (Jvm.Cond.declares ({ cls := "com/example/bounded_lock/boundedlock/engine/Lease", name := "owner", desc := "()Ljava/lang/String;" } : Jvm.MethodName)).before a0 Z = true := hw _ (List.mem_of_getElem? (i := 156) rfl)
theorem wd_157 {a0 : Array Value} {Z : State} (hw : ∀ d ∈ tables_1, d.before a0 Z = true) : (Jvm.Cond.instanceMethod ({ cls := "com/example/bounded_lock/boundedlock/engine/Lease", name := "owner", desc := "()Ljava/lang/String;" } : Jvm.MethodName)).before a0 Z = true := hw _ (List.mem_of_getElem? (i := 157) rfl)
theorem wd_158 {a0 : Array Value} {Z : State} (hw : ∀ d ∈ tables_1, d.before a0 Z = true) : (Jvm.Cond.selects "com/example/bounded_lock/boundedlock/engine/Lease" ({ cls := "com/example/bounded_lock/boundedlock/engine/Lease", name := "owner", desc := "()Ljava/lang/String;" } : Jvm.MethodName) ({ cls := "com/example/bounded_lock/boundedlock/engine/Lease", name := "owner", desc := "()Ljava/lang/String;" } : Jvm.MethodName)).before a0 Z = true := hw _ (List.mem_of_getElem? (i := 158) rfl)
theorem wd_159 {a0 : Array Value} {Z : State} (hw : ∀ d ∈ tables_1, d.before a0 Z = true) : (Jvm.Cond.code ({ cls := "com/example/bounded_lock/boundedlock/engine/Lease", name := "owner", desc := "()Ljava/lang/String;" } : Jvm.MethodName) prog_9_method_10_code (1 : Nat) (Option.some (Jvm.ClassFile.FieldType.object "java/lang/String"))).before a0 Z = true := hw _ (List.mem_of_getElem? (i := 159) rfl)
theorem wd_160 {a0 : Array Value} {Z : State} (hw : ∀ d ∈ tables_1, d.before a0 Z = true) : (Jvm.Cond.methodLink "com/example/bounded_lock/boundedlock/engine/LeaseWithTtlMsPinLaw" (53 : Nat) ({ cls := "com/example/bounded_lock/boundedlock/engine/Lease", name := "ttlMs", desc := "()J" } : Jvm.MethodName)).before a0 Z = true := hw _ (List.mem_of_getElem? (i := 160) rfl)
theorem wd_161 {a0 : Array Value} {Z : State} (hw : ∀ d ∈ tables_1, d.before a0 Z = true) : (Jvm.Cond.declares ({ cls := "com/example/bounded_lock/boundedlock/engine/Lease", name := "ttlMs", desc := "()J" } : Jvm.MethodName)).before a0 Z = true := hw _ (List.mem_of_getElem? (i := 161) rfl)
theorem wd_162 {a0 : Array Value} {Z : State} (hw : ∀ d ∈ tables_1, d.before a0 Z = true) : (Jvm.Cond.instanceMethod ({ cls := "com/example/bounded_lock/boundedlock/engine/Lease", name := "ttlMs", desc := "()J" } : Jvm.MethodName)).before a0 Z = true := hw _ (List.mem_of_getElem? (i := 162) rfl)
theorem wd_163 {a0 : Array Value} {Z : State} (hw : ∀ d ∈ tables_1, d.before a0 Z = true) : (Jvm.Cond.selects "com/example/bounded_lock/boundedlock/engine/Lease" ({ cls := "com/example/bounded_lock/boundedlock/engine/Lease", name := "ttlMs", desc := "()J" } : Jvm.MethodName) ({ cls := "com/example/bounded_lock/boundedlock/engine/Lease", name := "ttlMs", desc := "()J" } : Jvm.MethodName)).before a0 Z = true := hw _ (List.mem_of_getElem? (i := 163) rfl)
theorem wd_164 {a0 : Array Value} {Z : State} (hw : ∀ d ∈ tables_1, d.before a0 Z = true) : (Jvm.Cond.code ({ cls := "com/example/bounded_lock/boundedlock/engine/Lease", name := "ttlMs", desc := "()J" } : Jvm.MethodName) prog_9_method_11_code (1 : Nat) (Option.some Jvm.ClassFile.FieldType.long)).before a0 Z = true := hw _ (List.mem_of_getElem? (i := 164) rfl)
theorem wd_165 {a0 : Array Value} {Z : State} (hw : ∀ d ∈ tables_1, d.before a0 Z = true) : (Jvm.Cond.stringLink "com/example/bounded_lock/boundedlock/engine/LeaseWithTtlMsPinLaw" (12 : Nat) "").before a0 Z = true := hw _ (List.mem_of_getElem? (i := 165) rfl)
theorem own_wS {a0 : Array Value} {Z : State} (hw : ∀ d ∈ tables_1, d.before a0 Z = true) : ∀ a ∈ Bundle.stringAtoms, a.before a0 Z = true := by
  intro d hd
  simp only [Bundle.stringAtoms, List.mem_cons, List.not_mem_nil, or_false] at hd
  rcases hd with rfl | rfl | rfl | rfl | rfl | rfl | rfl
  · exact (wd_3 hw)
  · exact (wd_2 hw)
  · exact (wd_19 hw)
  · exact (wd_29 hw)
  · exact (wd_27 hw)
  · exact (wd_48 hw)
  · exact (wd_49 hw)
theorem d_0 : Dc code 0 (.iconst 1) 1 1 := ⟨at_0, rfl⟩
theorem d_1 : Dc code 1 (.newarray .char) 2 3 := ⟨at_1, rfl⟩
theorem d_3 : Dc code 3 (.dup) 1 4 := ⟨at_3, rfl⟩
theorem d_4 : Dc code 4 (.iconst 0) 1 5 := ⟨at_4, rfl⟩
theorem d_5 : Dc code 5 (.iload 7) 2 7 := ⟨at_5, rfl⟩
theorem d_7 : Dc code 7 (.sipush 255) 3 10 := ⟨at_7, rfl⟩
theorem d_10 : Dc code 10 (.iand) 1 11 := ⟨at_10, rfl⟩
theorem d_11 : Dc code 11 (.i2c) 1 12 := ⟨at_11, rfl⟩
theorem d_12 : Dc code 12 (.castore) 1 13 := ⟨at_12, rfl⟩
theorem d_13 : Dc code 13 (.astore 8) 2 15 := ⟨at_13, rfl⟩
theorem d_15 : Dc code 15 (.new 7) 3 18 := ⟨at_15, rfl⟩
theorem d_18 : Dc code 18 (.dup) 1 19 := ⟨at_18, rfl⟩
theorem d_19 : Dc code 19 (.aload 8) 2 21 := ⟨at_19, rfl⟩
theorem d_21 : Dc code 21 (.invokespecial 9) 3 24 := ⟨at_21, rfl⟩
theorem d_24 : Dc code 24 (.astore 9) 2 26 := ⟨at_24, rfl⟩
theorem d_26 : Dc code 26 (.iload 7) 2 28 := ⟨at_26, rfl⟩
theorem d_28 : Dc code 28 (.bipush 16) 2 30 := ⟨at_28, rfl⟩
theorem d_30 : Dc code 30 (.iushr) 1 31 := ⟨at_30, rfl⟩
theorem d_31 : Dc code 31 (.iconst 1) 1 32 := ⟨at_31, rfl⟩
theorem d_32 : Dc code 32 (.iand) 1 33 := ⟨at_32, rfl⟩
theorem d_33 : Bc code 33 (.ifCond .eq) 41 36 := ⟨8, at_33, by decide, by decide, rfl⟩
theorem d_36 : Dc code 36 (.ldc 12) 2 38 := ⟨at_36, rfl⟩
theorem d_38 : Bc code 38 (.goto) 54 41 := ⟨16, at_38, by decide, by decide, rfl⟩
theorem d_41 : Dc code 41 (.iload 7) 2 43 := ⟨at_41, rfl⟩
theorem d_43 : Dc code 43 (.bipush 8) 2 45 := ⟨at_43, rfl⟩
theorem d_45 : Dc code 45 (.iushr) 1 46 := ⟨at_45, rfl⟩
theorem d_46 : Dc code 46 (.sipush 255) 3 49 := ⟨at_46, rfl⟩
theorem d_49 : Dc code 49 (.iand) 1 50 := ⟨at_49, rfl⟩
theorem d_50 : Dc code 50 (.i2c) 1 51 := ⟨at_50, rfl⟩
theorem d_51 : Dc code 51 (.invokestatic 14) 3 54 := ⟨at_51, rfl⟩
theorem d_54 : Dc code 54 (.astore 10) 2 56 := ⟨at_54, rfl⟩
theorem d_56 : Dc code 56 (.new 18) 3 59 := ⟨at_56, rfl⟩
theorem d_59 : Dc code 59 (.dup) 1 60 := ⟨at_59, rfl⟩
theorem d_60 : Dc code 60 (.ldc 20) 2 62 := ⟨at_60, rfl⟩
theorem d_62 : Dc code 62 (.invokespecial 22) 3 65 := ⟨at_62, rfl⟩
theorem d_65 : Dc code 65 (.astore 11) 2 67 := ⟨at_65, rfl⟩
theorem d_67 : Dc code 67 (.new 25) 3 70 := ⟨at_67, rfl⟩
theorem d_70 : Dc code 70 (.dup) 1 71 := ⟨at_70, rfl⟩
theorem d_71 : Dc code 71 (.aload 9) 2 73 := ⟨at_71, rfl⟩
theorem d_73 : Dc code 73 (.aload 11) 2 75 := ⟨at_73, rfl⟩
theorem d_75 : Dc code 75 (.iload_n 0) 1 76 := ⟨at_75, rfl⟩
theorem d_76 : Dc code 76 (.lload_n 1) 1 77 := ⟨at_76, rfl⟩
theorem d_77 : Dc code 77 (.aload 10) 2 79 := ⟨at_77, rfl⟩
theorem d_79 : Dc code 79 (.lload_n 3) 1 80 := ⟨at_79, rfl⟩
theorem d_80 : Dc code 80 (.invokespecial 27) 3 83 := ⟨at_80, rfl⟩
theorem d_83 : Dc code 83 (.astore 12) 2 85 := ⟨at_83, rfl⟩
theorem d_85 : Dc code 85 (.aload 12) 2 87 := ⟨at_85, rfl⟩
theorem d_87 : Dc code 87 (.lload 5) 2 89 := ⟨at_87, rfl⟩
theorem d_89 : Dc code 89 (.invokevirtual 30) 3 92 := ⟨at_89, rfl⟩
theorem d_92 : Dc code 92 (.astore 13) 2 94 := ⟨at_92, rfl⟩
theorem d_94 : Dc code 94 (.aload 13) 2 96 := ⟨at_94, rfl⟩
theorem d_96 : Bc code 96 (.ifnonnull) 101 99 := ⟨5, at_96, by decide, by decide, rfl⟩
theorem d_101 : Dc code 101 (.aload 13) 2 103 := ⟨at_101, rfl⟩
theorem d_103 : Dc code 103 (.invokevirtual 34) 3 106 := ⟨at_103, rfl⟩
theorem d_106 : Dc code 106 (.aload 9) 2 108 := ⟨at_106, rfl⟩
theorem d_108 : Bc code 108 (.if_acmp .ne) 175 111 := ⟨67, at_108, by decide, by decide, rfl⟩
theorem d_111 : Dc code 111 (.aload 13) 2 113 := ⟨at_111, rfl⟩
theorem d_113 : Dc code 113 (.invokevirtual 38) 3 116 := ⟨at_113, rfl⟩
theorem d_116 : Dc code 116 (.aload 11) 2 118 := ⟨at_116, rfl⟩
theorem d_118 : Bc code 118 (.if_acmp .ne) 175 121 := ⟨57, at_118, by decide, by decide, rfl⟩
theorem d_121 : Dc code 121 (.aload 13) 2 123 := ⟨at_121, rfl⟩
theorem d_123 : Dc code 123 (.invokevirtual 42) 3 126 := ⟨at_123, rfl⟩
theorem d_126 : Dc code 126 (.iload_n 0) 1 127 := ⟨at_126, rfl⟩
theorem d_127 : Bc code 127 (.if_icmp .ne) 175 130 := ⟨48, at_127, by decide, by decide, rfl⟩
theorem d_130 : Dc code 130 (.aload 13) 2 132 := ⟨at_130, rfl⟩
theorem d_132 : Dc code 132 (.invokevirtual 46) 3 135 := ⟨at_132, rfl⟩
theorem d_135 : Dc code 135 (.lload_n 1) 1 136 := ⟨at_135, rfl⟩
theorem d_136 : Dc code 136 (.lcmp) 1 137 := ⟨at_136, rfl⟩
theorem d_137 : Bc code 137 (.ifCond .ne) 175 140 := ⟨38, at_137, by decide, by decide, rfl⟩
theorem d_140 : Dc code 140 (.aload 13) 2 142 := ⟨at_140, rfl⟩
theorem d_142 : Dc code 142 (.invokevirtual 50) 3 145 := ⟨at_142, rfl⟩
theorem d_145 : Dc code 145 (.aload 10) 2 147 := ⟨at_145, rfl⟩
theorem d_147 : Bc code 147 (.if_acmp .ne) 175 150 := ⟨28, at_147, by decide, by decide, rfl⟩
theorem d_150 : Dc code 150 (.aload 13) 2 152 := ⟨at_150, rfl⟩
theorem d_152 : Dc code 152 (.invokevirtual 53) 3 155 := ⟨at_152, rfl⟩
theorem d_155 : Dc code 155 (.lload 5) 2 157 := ⟨at_155, rfl⟩
theorem d_157 : Dc code 157 (.lcmp) 1 158 := ⟨at_157, rfl⟩
theorem d_158 : Bc code 158 (.ifCond .ne) 175 161 := ⟨17, at_158, by decide, by decide, rfl⟩
theorem d_161 : Dc code 161 (.aload 12) 2 163 := ⟨at_161, rfl⟩
theorem d_163 : Dc code 163 (.invokevirtual 53) 3 166 := ⟨at_163, rfl⟩
theorem d_166 : Dc code 166 (.lload_n 3) 1 167 := ⟨at_166, rfl⟩
theorem d_167 : Dc code 167 (.lcmp) 1 168 := ⟨at_167, rfl⟩
theorem d_168 : Bc code 168 (.ifCond .ne) 175 171 := ⟨7, at_168, by decide, by decide, rfl⟩
theorem d_171 : Dc code 171 (.iconst 1) 1 172 := ⟨at_171, rfl⟩
theorem d_172 : Bc code 172 (.goto) 176 175 := ⟨4, at_172, by decide, by decide, rfl⟩
theorem d_176 : Dc code 176 (.ireturn) 1 177 := ⟨at_176, rfl⟩
theorem djdk_30_1_0 : Dc jdk_30_method_1_code 0 (.aload_n 0) 1 1 := ⟨by decide +kernel, rfl⟩
theorem djdk_30_1_1 : Dc jdk_30_method_1_code 1 (.invokespecial 1) 3 4 := ⟨by decide +kernel, rfl⟩
theorem djdk_30_1_4 : Dc jdk_30_method_1_code 4 (.return_) 1 5 := ⟨by decide +kernel, rfl⟩
theorem djdk_31_11_0 : Dc jdk_31_method_11_code 0 (.aload_n 0) 1 1 := ⟨by decide +kernel, rfl⟩
theorem djdk_31_11_1 : Bc jdk_31_method_11_code 1 (.ifnonnull) 13 4 := ⟨12, by decide +kernel, by decide, by decide, rfl⟩
theorem djdk_31_11_13 : Dc jdk_31_method_11_code 13 (.aload_n 0) 1 14 := ⟨by decide +kernel, rfl⟩
theorem djdk_31_11_14 : Dc jdk_31_method_11_code 14 (.areturn) 1 15 := ⟨by decide +kernel, rfl⟩
theorem djdk_41_11_0 : Dc jdk_41_method_11_code 0 (.iload_n 0) 1 1 := ⟨by decide +kernel, rfl⟩
theorem djdk_41_11_1 : Bc jdk_41_method_11_code 1 (.ifCond .lt) 9 4 := ⟨8, by decide +kernel, by decide, by decide, rfl⟩
theorem djdk_41_11_4 : Dc jdk_41_method_11_code 4 (.iload_n 0) 1 5 := ⟨by decide +kernel, rfl⟩
theorem djdk_41_11_5 : Dc jdk_41_method_11_code 5 (.iload_n 1) 1 6 := ⟨by decide +kernel, rfl⟩
theorem djdk_41_11_6 : Bc jdk_41_method_11_code 6 (.if_icmp .lt) 16 9 := ⟨10, by decide +kernel, by decide, by decide, rfl⟩
theorem djdk_41_11_16 : Dc jdk_41_method_11_code 16 (.iload_n 0) 1 17 := ⟨by decide +kernel, rfl⟩
theorem djdk_41_11_17 : Dc jdk_41_method_11_code 17 (.ireturn) 1 18 := ⟨by decide +kernel, rfl⟩
theorem djdk_42_139_0 : Dc jdk_42_method_139_code 0 (.getstatic 38) 3 3 := ⟨by decide +kernel, rfl⟩
theorem djdk_42_139_3 : Bc jdk_42_method_139_code 3 (.ifCond .eq) 26 6 := ⟨23, by decide +kernel, by decide, by decide, rfl⟩
theorem djdk_42_139_6 : Dc jdk_42_method_139_code 6 (.iload_n 0) 1 7 := ⟨by decide +kernel, rfl⟩
theorem djdk_42_139_7 : Dc jdk_42_method_139_code 7 (.invokestatic 1015) 3 10 := ⟨by decide +kernel, rfl⟩
theorem djdk_42_139_10 : Bc jdk_42_method_139_code 10 (.ifCond .eq) 26 13 := ⟨16, by decide +kernel, by decide, by decide, rfl⟩
theorem djdk_42_139_13 : Dc jdk_42_method_139_code 13 (.new 10) 3 16 := ⟨by decide +kernel, rfl⟩
theorem djdk_42_139_16 : Dc jdk_42_method_139_code 16 (.dup) 1 17 := ⟨by decide +kernel, rfl⟩
theorem djdk_42_139_17 : Dc jdk_42_method_139_code 17 (.iload_n 0) 1 18 := ⟨by decide +kernel, rfl⟩
theorem djdk_42_139_18 : Dc jdk_42_method_139_code 18 (.invokestatic 1018) 3 21 := ⟨by decide +kernel, rfl⟩
theorem djdk_42_139_21 : Dc jdk_42_method_139_code 21 (.iconst 0) 1 22 := ⟨by decide +kernel, rfl⟩
theorem djdk_42_139_22 : Dc jdk_42_method_139_code 22 (.invokespecial 209) 3 25 := ⟨by decide +kernel, rfl⟩
theorem djdk_42_139_25 : Dc jdk_42_method_139_code 25 (.areturn) 1 26 := ⟨by decide +kernel, rfl⟩
theorem djdk_42_149_0 : Dc jdk_42_method_149_code 0 (.aload_n 0) 1 1 := ⟨by decide +kernel, rfl⟩
theorem djdk_42_149_1 : Dc jdk_42_method_149_code 1 (.invokespecial 1) 3 4 := ⟨by decide +kernel, rfl⟩
theorem djdk_42_149_4 : Dc jdk_42_method_149_code 4 (.iload_n 3) 1 5 := ⟨by decide +kernel, rfl⟩
theorem djdk_42_149_5 : Bc jdk_42_method_149_code 5 (.ifCond .ne) 27 8 := ⟨22, by decide +kernel, by decide, by decide, rfl⟩
theorem djdk_42_149_27 : Dc jdk_42_method_149_code 27 (.getstatic 38) 3 30 := ⟨by decide +kernel, rfl⟩
theorem djdk_42_149_30 : Bc jdk_42_method_149_code 30 (.ifCond .eq) 58 33 := ⟨28, by decide +kernel, by decide, by decide, rfl⟩
theorem djdk_42_149_33 : Dc jdk_42_method_149_code 33 (.aload_n 1) 1 34 := ⟨by decide +kernel, rfl⟩
theorem djdk_42_149_34 : Dc jdk_42_method_149_code 34 (.iload_n 2) 1 35 := ⟨by decide +kernel, rfl⟩
theorem djdk_42_149_35 : Dc jdk_42_method_149_code 35 (.iload_n 3) 1 36 := ⟨by decide +kernel, rfl⟩
theorem djdk_42_149_36 : Dc jdk_42_method_149_code 36 (.invokestatic 177) 3 39 := ⟨by decide +kernel, rfl⟩
theorem djdk_42_149_39 : Dc jdk_42_method_149_code 39 (.astore 5) 2 41 := ⟨by decide +kernel, rfl⟩
theorem djdk_42_149_41 : Dc jdk_42_method_149_code 41 (.aload_n 0) 1 42 := ⟨by decide +kernel, rfl⟩
theorem djdk_42_149_42 : Dc jdk_42_method_149_code 42 (.aload 5) 2 44 := ⟨by decide +kernel, rfl⟩
theorem djdk_42_149_44 : Dc jdk_42_method_149_code 44 (.iload_n 3) 1 45 := ⟨by decide +kernel, rfl⟩
theorem djdk_42_149_45 : Dc jdk_42_method_149_code 45 (.invokestatic 47) 3 48 := ⟨by decide +kernel, rfl⟩
theorem djdk_42_149_48 : Dc jdk_42_method_149_code 48 (.putfield 15) 3 51 := ⟨by decide +kernel, rfl⟩
theorem djdk_42_149_51 : Dc jdk_42_method_149_code 51 (.aload_n 0) 1 52 := ⟨by decide +kernel, rfl⟩
theorem djdk_42_149_52 : Dc jdk_42_method_149_code 52 (.aload 5) 2 54 := ⟨by decide +kernel, rfl⟩
theorem djdk_42_149_54 : Dc jdk_42_method_149_code 54 (.putfield 9) 3 57 := ⟨by decide +kernel, rfl⟩
theorem djdk_42_149_57 : Dc jdk_42_method_149_code 57 (.return_) 1 58 := ⟨by decide +kernel, rfl⟩
theorem djdk_42_151_0 : Dc jdk_42_method_151_code 0 (.aload_n 0) 1 1 := ⟨by decide +kernel, rfl⟩
theorem djdk_42_151_1 : Dc jdk_42_method_151_code 1 (.invokespecial 1) 3 4 := ⟨by decide +kernel, rfl⟩
theorem djdk_42_151_4 : Dc jdk_42_method_151_code 4 (.aload_n 0) 1 5 := ⟨by decide +kernel, rfl⟩
theorem djdk_42_151_5 : Dc jdk_42_method_151_code 5 (.aload_n 1) 1 6 := ⟨by decide +kernel, rfl⟩
theorem djdk_42_151_6 : Dc jdk_42_method_151_code 6 (.putfield 9) 3 9 := ⟨by decide +kernel, rfl⟩
theorem djdk_42_151_9 : Dc jdk_42_method_151_code 9 (.aload_n 0) 1 10 := ⟨by decide +kernel, rfl⟩
theorem djdk_42_151_10 : Dc jdk_42_method_151_code 10 (.iload_n 2) 1 11 := ⟨by decide +kernel, rfl⟩
theorem djdk_42_151_11 : Dc jdk_42_method_151_code 11 (.putfield 15) 3 14 := ⟨by decide +kernel, rfl⟩
theorem djdk_42_151_14 : Dc jdk_42_method_151_code 14 (.return_) 1 15 := ⟨by decide +kernel, rfl⟩
theorem djdk_42_152_0 : Dc jdk_42_method_152_code 0 (.getstatic 38) 3 3 := ⟨by decide +kernel, rfl⟩
theorem djdk_42_152_3 : Bc jdk_42_method_152_code 3 (.ifCond .eq) 13 6 := ⟨10, by decide +kernel, by decide, by decide, rfl⟩
theorem djdk_42_152_6 : Dc jdk_42_method_152_code 6 (.aload_n 0) 1 7 := ⟨by decide +kernel, rfl⟩
theorem djdk_42_152_7 : Dc jdk_42_method_152_code 7 (.getfield 15) 3 10 := ⟨by decide +kernel, rfl⟩
theorem djdk_42_152_10 : Bc jdk_42_method_152_code 10 (.goto) 14 13 := ⟨4, by decide +kernel, by decide, by decide, rfl⟩
theorem djdk_42_152_14 : Dc jdk_42_method_152_code 14 (.ireturn) 1 15 := ⟨by decide +kernel, rfl⟩
theorem djdk_42_154_0 : Dc jdk_42_method_154_code 0 (.getstatic 38) 3 3 := ⟨by decide +kernel, rfl⟩
theorem djdk_42_154_3 : Bc jdk_42_method_154_code 3 (.ifCond .eq) 17 6 := ⟨14, by decide +kernel, by decide, by decide, rfl⟩
theorem djdk_42_154_6 : Dc jdk_42_method_154_code 6 (.aload_n 0) 1 7 := ⟨by decide +kernel, rfl⟩
theorem djdk_42_154_7 : Dc jdk_42_method_154_code 7 (.getfield 15) 3 10 := ⟨by decide +kernel, rfl⟩
theorem djdk_42_154_10 : Bc jdk_42_method_154_code 10 (.ifCond .ne) 17 13 := ⟨7, by decide +kernel, by decide, by decide, rfl⟩
theorem djdk_42_154_13 : Dc jdk_42_method_154_code 13 (.iconst 1) 1 14 := ⟨by decide +kernel, rfl⟩
theorem djdk_42_154_14 : Bc jdk_42_method_154_code 14 (.goto) 18 17 := ⟨4, by decide +kernel, by decide, by decide, rfl⟩
theorem djdk_42_154_18 : Dc jdk_42_method_154_code 18 (.ireturn) 1 19 := ⟨by decide +kernel, rfl⟩
theorem djdk_42_155_0 : Dc jdk_42_method_155_code 0 (.iload_n 0) 1 1 := ⟨by decide +kernel, rfl⟩
theorem djdk_42_155_1 : Dc jdk_42_method_155_code 1 (.iload_n 1) 1 2 := ⟨by decide +kernel, rfl⟩
theorem djdk_42_155_2 : Dc jdk_42_method_155_code 2 (.getstatic 1053) 3 5 := ⟨by decide +kernel, rfl⟩
theorem djdk_42_155_5 : Dc jdk_42_method_155_code 5 (.invokestatic 1059) 3 8 := ⟨by decide +kernel, rfl⟩
theorem djdk_42_155_8 : Dc jdk_42_method_155_code 8 (.pop) 1 9 := ⟨by decide +kernel, rfl⟩
theorem djdk_42_155_9 : Dc jdk_42_method_155_code 9 (.return_) 1 10 := ⟨by decide +kernel, rfl⟩
theorem djdk_42_3_0 : Dc jdk_42_method_3_code 0 (.aload_n 0) 1 1 := ⟨by decide +kernel, rfl⟩
theorem djdk_42_3_1 : Dc jdk_42_method_3_code 1 (.aload_n 1) 1 2 := ⟨by decide +kernel, rfl⟩
theorem djdk_42_3_2 : Dc jdk_42_method_3_code 2 (.iconst 0) 1 3 := ⟨by decide +kernel, rfl⟩
theorem djdk_42_3_3 : Dc jdk_42_method_3_code 3 (.aload_n 1) 1 4 := ⟨by decide +kernel, rfl⟩
theorem djdk_42_3_4 : Dc jdk_42_method_3_code 4 (.arraylength) 1 5 := ⟨by decide +kernel, rfl⟩
theorem djdk_42_3_5 : Dc jdk_42_method_3_code 5 (.aconst_null) 1 6 := ⟨by decide +kernel, rfl⟩
theorem djdk_42_3_6 : Dc jdk_42_method_3_code 6 (.invokespecial 27) 3 9 := ⟨by decide +kernel, rfl⟩
theorem djdk_42_3_9 : Dc jdk_42_method_3_code 9 (.return_) 1 10 := ⟨by decide +kernel, rfl⟩
theorem djdk_42_54_0 : Dc jdk_42_method_54_code 0 (.aload_n 0) 1 1 := ⟨by decide +kernel, rfl⟩
theorem djdk_42_54_1 : Dc jdk_42_method_54_code 1 (.getfield 9) 3 4 := ⟨by decide +kernel, rfl⟩
theorem djdk_42_54_4 : Dc jdk_42_method_54_code 4 (.arraylength) 1 5 := ⟨by decide +kernel, rfl⟩
theorem djdk_42_54_5 : Dc jdk_42_method_54_code 5 (.aload_n 0) 1 6 := ⟨by decide +kernel, rfl⟩
theorem djdk_42_54_6 : Dc jdk_42_method_54_code 6 (.invokevirtual 335) 3 9 := ⟨by decide +kernel, rfl⟩
theorem djdk_42_54_9 : Dc jdk_42_method_54_code 9 (.ishr) 1 10 := ⟨by decide +kernel, rfl⟩
theorem djdk_42_54_10 : Dc jdk_42_method_54_code 10 (.ireturn) 1 11 := ⟨by decide +kernel, rfl⟩
theorem djdk_42_55_0 : Dc jdk_42_method_55_code 0 (.aload_n 0) 1 1 := ⟨by decide +kernel, rfl⟩
theorem djdk_42_55_1 : Dc jdk_42_method_55_code 1 (.getfield 9) 3 4 := ⟨by decide +kernel, rfl⟩
theorem djdk_42_55_4 : Dc jdk_42_method_55_code 4 (.arraylength) 1 5 := ⟨by decide +kernel, rfl⟩
theorem djdk_42_55_5 : Bc jdk_42_method_55_code 5 (.ifCond .ne) 12 8 := ⟨7, by decide +kernel, by decide, by decide, rfl⟩
theorem djdk_42_55_12 : Dc jdk_42_method_55_code 12 (.iconst 0) 1 13 := ⟨by decide +kernel, rfl⟩
theorem djdk_42_55_13 : Dc jdk_42_method_55_code 13 (.ireturn) 1 14 := ⟨by decide +kernel, rfl⟩
theorem djdk_42_56_0 : Dc jdk_42_method_56_code 0 (.aload_n 0) 1 1 := ⟨by decide +kernel, rfl⟩
theorem djdk_42_56_1 : Dc jdk_42_method_56_code 1 (.invokevirtual 492) 3 4 := ⟨by decide +kernel, rfl⟩
theorem djdk_42_56_4 : Bc jdk_42_method_56_code 4 (.ifCond .eq) 16 7 := ⟨12, by decide +kernel, by decide, by decide, rfl⟩
theorem djdk_42_56_7 : Dc jdk_42_method_56_code 7 (.aload_n 0) 1 8 := ⟨by decide +kernel, rfl⟩
theorem djdk_42_56_8 : Dc jdk_42_method_56_code 8 (.getfield 9) 3 11 := ⟨by decide +kernel, rfl⟩
theorem djdk_42_56_11 : Dc jdk_42_method_56_code 11 (.iload_n 1) 1 12 := ⟨by decide +kernel, rfl⟩
theorem djdk_42_56_12 : Dc jdk_42_method_56_code 12 (.invokestatic 495) 3 15 := ⟨by decide +kernel, rfl⟩
theorem djdk_42_56_15 : Dc jdk_42_method_56_code 15 (.ireturn) 1 16 := ⟨by decide +kernel, rfl⟩
theorem djdk_43_2_0 : Dc jdk_43_method_2_code 0 (.iload_n 1) 1 1 := ⟨by decide +kernel, rfl⟩
theorem djdk_43_2_1 : Dc jdk_43_method_2_code 1 (.aload_n 0) 1 2 := ⟨by decide +kernel, rfl⟩
theorem djdk_43_2_2 : Dc jdk_43_method_2_code 2 (.arraylength) 1 3 := ⟨by decide +kernel, rfl⟩
theorem djdk_43_2_3 : Dc jdk_43_method_2_code 3 (.invokestatic 9) 3 6 := ⟨by decide +kernel, rfl⟩
theorem djdk_43_2_6 : Dc jdk_43_method_2_code 6 (.aload_n 0) 1 7 := ⟨by decide +kernel, rfl⟩
theorem djdk_43_2_7 : Dc jdk_43_method_2_code 7 (.iload_n 1) 1 8 := ⟨by decide +kernel, rfl⟩
theorem djdk_43_2_8 : Dc jdk_43_method_2_code 8 (.baload) 1 9 := ⟨by decide +kernel, rfl⟩
theorem djdk_43_2_9 : Dc jdk_43_method_2_code 9 (.sipush 255) 3 12 := ⟨by decide +kernel, rfl⟩
theorem djdk_43_2_12 : Dc jdk_43_method_2_code 12 (.iand) 1 13 := ⟨by decide +kernel, rfl⟩
theorem djdk_43_2_13 : Dc jdk_43_method_2_code 13 (.i2c) 1 14 := ⟨by decide +kernel, rfl⟩
theorem djdk_43_2_14 : Dc jdk_43_method_2_code 14 (.ireturn) 1 15 := ⟨by decide +kernel, rfl⟩
theorem djdk_43_3_0 : Dc jdk_43_method_3_code 0 (.iload_n 0) 1 1 := ⟨by decide +kernel, rfl⟩
theorem djdk_43_3_1 : Dc jdk_43_method_3_code 1 (.sipush 255) 3 4 := ⟨by decide +kernel, rfl⟩
theorem djdk_43_3_4 : Bc jdk_43_method_3_code 4 (.if_icmp .gt) 11 7 := ⟨7, by decide +kernel, by decide, by decide, rfl⟩
theorem djdk_43_3_7 : Dc jdk_43_method_3_code 7 (.iconst 1) 1 8 := ⟨by decide +kernel, rfl⟩
theorem djdk_43_3_8 : Bc jdk_43_method_3_code 8 (.goto) 12 11 := ⟨4, by decide +kernel, by decide, by decide, rfl⟩
theorem djdk_43_3_12 : Dc jdk_43_method_3_code 12 (.ireturn) 1 13 := ⟨by decide +kernel, rfl⟩
theorem djdk_43_46_0 : Dc jdk_43_method_46_code 0 (.iconst 1) 1 1 := ⟨by decide +kernel, rfl⟩
theorem djdk_43_46_1 : Dc jdk_43_method_46_code 1 (.newarray .byte) 2 3 := ⟨by decide +kernel, rfl⟩
theorem djdk_43_46_3 : Dc jdk_43_method_46_code 3 (.dup) 1 4 := ⟨by decide +kernel, rfl⟩
theorem djdk_43_46_4 : Dc jdk_43_method_46_code 4 (.iconst 0) 1 5 := ⟨by decide +kernel, rfl⟩
theorem djdk_43_46_5 : Dc jdk_43_method_46_code 5 (.iload_n 0) 1 6 := ⟨by decide +kernel, rfl⟩
theorem djdk_43_46_6 : Dc jdk_43_method_46_code 6 (.i2b) 1 7 := ⟨by decide +kernel, rfl⟩
theorem djdk_43_46_7 : Dc jdk_43_method_46_code 7 (.bastore) 1 8 := ⟨by decide +kernel, rfl⟩
theorem djdk_43_46_8 : Dc jdk_43_method_46_code 8 (.areturn) 1 9 := ⟨by decide +kernel, rfl⟩
theorem djdk_52_15_0 : Dc jdk_52_method_15_code 0 (.iload_n 1) 1 1 := ⟨by decide +kernel, rfl⟩
theorem djdk_52_15_1 : Dc jdk_52_method_15_code 1 (.aload_n 0) 1 2 := ⟨by decide +kernel, rfl⟩
theorem djdk_52_15_2 : Dc jdk_52_method_15_code 2 (.arraylength) 1 3 := ⟨by decide +kernel, rfl⟩
theorem djdk_52_15_3 : Dc jdk_52_method_15_code 3 (.isub) 1 4 := ⟨by decide +kernel, rfl⟩
theorem djdk_52_15_4 : Dc jdk_52_method_15_code 4 (.bipush 31) 2 6 := ⟨by decide +kernel, rfl⟩
theorem djdk_52_15_6 : Dc jdk_52_method_15_code 6 (.iushr) 1 7 := ⟨by decide +kernel, rfl⟩
theorem djdk_52_15_7 : Dc jdk_52_method_15_code 7 (.i2b) 1 8 := ⟨by decide +kernel, rfl⟩
theorem djdk_52_15_8 : Dc jdk_52_method_15_code 8 (.ireturn) 1 9 := ⟨by decide +kernel, rfl⟩
theorem djdk_52_16_0 : Dc jdk_52_method_16_code 0 (.iload_n 2) 1 1 := ⟨by decide +kernel, rfl⟩
theorem djdk_52_16_1 : Dc jdk_52_method_16_code 1 (.newarray .byte) 2 3 := ⟨by decide +kernel, rfl⟩
theorem djdk_52_16_3 : Dc jdk_52_method_16_code 3 (.astore_n 3) 1 4 := ⟨by decide +kernel, rfl⟩
theorem djdk_52_16_4 : Dc jdk_52_method_16_code 4 (.aload_n 0) 1 5 := ⟨by decide +kernel, rfl⟩
theorem djdk_52_16_5 : Dc jdk_52_method_16_code 5 (.iload_n 1) 1 6 := ⟨by decide +kernel, rfl⟩
theorem djdk_52_16_6 : Dc jdk_52_method_16_code 6 (.aload_n 3) 1 7 := ⟨by decide +kernel, rfl⟩
theorem djdk_52_16_7 : Dc jdk_52_method_16_code 7 (.iconst 0) 1 8 := ⟨by decide +kernel, rfl⟩
theorem djdk_52_16_8 : Dc jdk_52_method_16_code 8 (.iload_n 2) 1 9 := ⟨by decide +kernel, rfl⟩
theorem djdk_52_16_9 : Dc jdk_52_method_16_code 9 (.invokestatic 115) 3 12 := ⟨by decide +kernel, rfl⟩
theorem djdk_52_16_12 : Dc jdk_52_method_16_code 12 (.istore 4) 2 14 := ⟨by decide +kernel, rfl⟩
theorem djdk_52_16_14 : Dc jdk_52_method_16_code 14 (.iload 4) 2 16 := ⟨by decide +kernel, rfl⟩
theorem djdk_52_16_16 : Dc jdk_52_method_16_code 16 (.iload_n 2) 1 17 := ⟨by decide +kernel, rfl⟩
theorem djdk_52_16_17 : Bc jdk_52_method_16_code 17 (.if_icmp .eq) 57 20 := ⟨40, by decide +kernel, by decide, by decide, rfl⟩
theorem djdk_52_16_57 : Dc jdk_52_method_16_code 57 (.aload_n 3) 1 58 := ⟨by decide +kernel, rfl⟩
theorem djdk_52_16_58 : Dc jdk_52_method_16_code 58 (.areturn) 1 59 := ⟨by decide +kernel, rfl⟩
theorem djdk_52_21_0 : Dc jdk_52_method_21_code 0 (.iconst 0) 1 1 := ⟨by decide +kernel, rfl⟩
theorem djdk_52_21_1 : Dc jdk_52_method_21_code 1 (.istore 5) 2 3 := ⟨by decide +kernel, rfl⟩
theorem djdk_52_21_3 : Dc jdk_52_method_21_code 3 (.iload 5) 2 5 := ⟨by decide +kernel, rfl⟩
theorem djdk_52_21_5 : Dc jdk_52_method_21_code 5 (.iload 4) 2 7 := ⟨by decide +kernel, rfl⟩
theorem djdk_52_21_7 : Bc jdk_52_method_21_code 7 (.if_icmp .ge) 44 10 := ⟨37, by decide +kernel, by decide, by decide, rfl⟩
theorem djdk_52_21_10 : Dc jdk_52_method_21_code 10 (.aload_n 0) 1 11 := ⟨by decide +kernel, rfl⟩
theorem djdk_52_21_11 : Dc jdk_52_method_21_code 11 (.iload_n 1) 1 12 := ⟨by decide +kernel, rfl⟩
theorem djdk_52_21_12 : Dc jdk_52_method_21_code 12 (.caload) 1 13 := ⟨by decide +kernel, rfl⟩
theorem djdk_52_21_13 : Dc jdk_52_method_21_code 13 (.istore 6) 2 15 := ⟨by decide +kernel, rfl⟩
theorem djdk_52_21_15 : Dc jdk_52_method_21_code 15 (.iload 6) 2 17 := ⟨by decide +kernel, rfl⟩
theorem djdk_52_21_17 : Dc jdk_52_method_21_code 17 (.sipush 255) 3 20 := ⟨by decide +kernel, rfl⟩
theorem djdk_52_21_20 : Bc jdk_52_method_21_code 20 (.if_icmp .le) 26 23 := ⟨6, by decide +kernel, by decide, by decide, rfl⟩
theorem djdk_52_21_26 : Dc jdk_52_method_21_code 26 (.aload_n 2) 1 27 := ⟨by decide +kernel, rfl⟩
theorem djdk_52_21_27 : Dc jdk_52_method_21_code 27 (.iload_n 3) 1 28 := ⟨by decide +kernel, rfl⟩
theorem djdk_52_21_28 : Dc jdk_52_method_21_code 28 (.iload 6) 2 30 := ⟨by decide +kernel, rfl⟩
theorem djdk_52_21_30 : Dc jdk_52_method_21_code 30 (.i2b) 1 31 := ⟨by decide +kernel, rfl⟩
theorem djdk_52_21_31 : Dc jdk_52_method_21_code 31 (.bastore) 1 32 := ⟨by decide +kernel, rfl⟩
theorem djdk_52_21_32 : Dc jdk_52_method_21_code 32 (.iinc 1 1) 3 35 := ⟨by decide +kernel, rfl⟩
theorem djdk_52_21_35 : Dc jdk_52_method_21_code 35 (.iinc 3 1) 3 38 := ⟨by decide +kernel, rfl⟩
theorem djdk_52_21_38 : Dc jdk_52_method_21_code 38 (.iinc 5 1) 3 41 := ⟨by decide +kernel, rfl⟩
theorem djdk_52_21_41 : Bc jdk_52_method_21_code 41 (.goto) 3 44 := ⟨(-38), by decide +kernel, by decide, by decide, rfl⟩
theorem djdk_52_21_44 : Dc jdk_52_method_21_code 44 (.iload 4) 2 46 := ⟨by decide +kernel, rfl⟩
theorem djdk_52_21_46 : Dc jdk_52_method_21_code 46 (.ireturn) 1 47 := ⟨by decide +kernel, rfl⟩
theorem dprog_12_1_0 : Dc prog_12_method_1_code 0 (.aload_n 0) 1 1 := ⟨by decide +kernel, rfl⟩
theorem dprog_12_1_1 : Dc prog_12_method_1_code 1 (.invokespecial 3) 3 4 := ⟨by decide +kernel, rfl⟩
theorem dprog_12_1_4 : Dc prog_12_method_1_code 4 (.aload_n 1) 1 5 := ⟨by decide +kernel, rfl⟩
theorem dprog_12_1_5 : Dc prog_12_method_1_code 5 (.ldc 9) 2 7 := ⟨by decide +kernel, rfl⟩
theorem dprog_12_1_7 : Dc prog_12_method_1_code 7 (.invokestatic 11) 3 10 := ⟨by decide +kernel, rfl⟩
theorem dprog_12_1_10 : Dc prog_12_method_1_code 10 (.pop) 1 11 := ⟨by decide +kernel, rfl⟩
theorem dprog_12_1_11 : Dc prog_12_method_1_code 11 (.iconst 0) 1 12 := ⟨by decide +kernel, rfl⟩
theorem dprog_12_1_12 : Dc prog_12_method_1_code 12 (.istore_n 2) 1 13 := ⟨by decide +kernel, rfl⟩
theorem dprog_12_1_13 : Dc prog_12_method_1_code 13 (.iload_n 2) 1 14 := ⟨by decide +kernel, rfl⟩
theorem dprog_12_1_14 : Dc prog_12_method_1_code 14 (.aload_n 1) 1 15 := ⟨by decide +kernel, rfl⟩
theorem dprog_12_1_15 : Dc prog_12_method_1_code 15 (.invokevirtual 17) 3 18 := ⟨by decide +kernel, rfl⟩
theorem dprog_12_1_18 : Bc prog_12_method_1_code 18 (.if_icmp .ge) 78 21 := ⟨60, by decide +kernel, by decide, by decide, rfl⟩
theorem dprog_12_1_21 : Dc prog_12_method_1_code 21 (.aload_n 1) 1 22 := ⟨by decide +kernel, rfl⟩
theorem dprog_12_1_22 : Dc prog_12_method_1_code 22 (.iload_n 2) 1 23 := ⟨by decide +kernel, rfl⟩
theorem dprog_12_1_23 : Dc prog_12_method_1_code 23 (.invokevirtual 23) 3 26 := ⟨by decide +kernel, rfl⟩
theorem dprog_12_1_26 : Dc prog_12_method_1_code 26 (.invokestatic 27) 3 29 := ⟨by decide +kernel, rfl⟩
theorem dprog_12_1_29 : Bc prog_12_method_1_code 29 (.ifCond .ne) 72 32 := ⟨43, by decide +kernel, by decide, by decide, rfl⟩
theorem dprog_12_1_72 : Dc prog_12_method_1_code 72 (.iinc 2 1) 3 75 := ⟨by decide +kernel, rfl⟩
theorem dprog_12_1_75 : Bc prog_12_method_1_code 75 (.goto) 13 78 := ⟨(-62), by decide +kernel, by decide, by decide, rfl⟩
theorem dprog_12_1_78 : Dc prog_12_method_1_code 78 (.aload_n 1) 1 79 := ⟨by decide +kernel, rfl⟩
theorem dprog_12_1_79 : Dc prog_12_method_1_code 79 (.invokevirtual 56) 3 82 := ⟨by decide +kernel, rfl⟩
theorem dprog_12_1_82 : Bc prog_12_method_1_code 82 (.ifCond .ne) 94 85 := ⟨12, by decide +kernel, by decide, by decide, rfl⟩
theorem dprog_12_1_85 : Dc prog_12_method_1_code 85 (.aload_n 1) 1 86 := ⟨by decide +kernel, rfl⟩
theorem dprog_12_1_86 : Dc prog_12_method_1_code 86 (.invokevirtual 17) 3 89 := ⟨by decide +kernel, rfl⟩
theorem dprog_12_1_89 : Dc prog_12_method_1_code 89 (.bipush 64) 2 91 := ⟨by decide +kernel, rfl⟩
theorem dprog_12_1_91 : Bc prog_12_method_1_code 91 (.if_icmp .le) 111 94 := ⟨20, by decide +kernel, by decide, by decide, rfl⟩
theorem dprog_12_1_111 : Dc prog_12_method_1_code 111 (.aload_n 0) 1 112 := ⟨by decide +kernel, rfl⟩
theorem dprog_12_1_112 : Dc prog_12_method_1_code 112 (.aload_n 1) 1 113 := ⟨by decide +kernel, rfl⟩
theorem dprog_12_1_113 : Dc prog_12_method_1_code 113 (.putfield 64) 3 116 := ⟨by decide +kernel, rfl⟩
theorem dprog_12_1_116 : Dc prog_12_method_1_code 116 (.return_) 1 117 := ⟨by decide +kernel, rfl⟩
theorem dprog_12_2_0 : Dc prog_12_method_2_code 0 (.iload_n 0) 1 1 := ⟨by decide +kernel, rfl⟩
theorem dprog_12_2_1 : Dc prog_12_method_2_code 1 (.bipush 65) 2 3 := ⟨by decide +kernel, rfl⟩
theorem dprog_12_2_3 : Bc prog_12_method_2_code 3 (.if_icmp .lt) 12 6 := ⟨9, by decide +kernel, by decide, by decide, rfl⟩
theorem dprog_12_2_6 : Dc prog_12_method_2_code 6 (.iload_n 0) 1 7 := ⟨by decide +kernel, rfl⟩
theorem dprog_12_2_7 : Dc prog_12_method_2_code 7 (.bipush 90) 2 9 := ⟨by decide +kernel, rfl⟩
theorem dprog_12_2_9 : Bc prog_12_method_2_code 9 (.if_icmp .le) 54 12 := ⟨45, by decide +kernel, by decide, by decide, rfl⟩
theorem dprog_12_2_12 : Dc prog_12_method_2_code 12 (.iload_n 0) 1 13 := ⟨by decide +kernel, rfl⟩
theorem dprog_12_2_13 : Dc prog_12_method_2_code 13 (.bipush 97) 2 15 := ⟨by decide +kernel, rfl⟩
theorem dprog_12_2_15 : Bc prog_12_method_2_code 15 (.if_icmp .lt) 24 18 := ⟨9, by decide +kernel, by decide, by decide, rfl⟩
theorem dprog_12_2_18 : Dc prog_12_method_2_code 18 (.iload_n 0) 1 19 := ⟨by decide +kernel, rfl⟩
theorem dprog_12_2_19 : Dc prog_12_method_2_code 19 (.bipush 122) 2 21 := ⟨by decide +kernel, rfl⟩
theorem dprog_12_2_21 : Bc prog_12_method_2_code 21 (.if_icmp .le) 54 24 := ⟨33, by decide +kernel, by decide, by decide, rfl⟩
theorem dprog_12_2_54 : Dc prog_12_method_2_code 54 (.iconst 1) 1 55 := ⟨by decide +kernel, rfl⟩
theorem dprog_12_2_55 : Bc prog_12_method_2_code 55 (.goto) 59 58 := ⟨4, by decide +kernel, by decide, by decide, rfl⟩
theorem dprog_12_2_59 : Dc prog_12_method_2_code 59 (.ireturn) 1 60 := ⟨by decide +kernel, rfl⟩
theorem dprog_9_10_0 : Dc prog_9_method_10_code 0 (.aload_n 0) 1 1 := ⟨by decide +kernel, rfl⟩
theorem dprog_9_10_1 : Dc prog_9_method_10_code 1 (.getfield 35) 3 4 := ⟨by decide +kernel, rfl⟩
theorem dprog_9_10_4 : Dc prog_9_method_10_code 4 (.areturn) 1 5 := ⟨by decide +kernel, rfl⟩
theorem dprog_9_11_0 : Dc prog_9_method_11_code 0 (.aload_n 0) 1 1 := ⟨by decide +kernel, rfl⟩
theorem dprog_9_11_1 : Dc prog_9_method_11_code 1 (.getfield 37) 3 4 := ⟨by decide +kernel, rfl⟩
theorem dprog_9_11_4 : Dc prog_9_method_11_code 4 (.lreturn) 1 5 := ⟨by decide +kernel, rfl⟩
theorem dprog_9_1_0 : Dc prog_9_method_1_code 0 (.aload_n 0) 1 1 := ⟨by decide +kernel, rfl⟩
theorem dprog_9_1_1 : Dc prog_9_method_1_code 1 (.invokespecial 1) 3 4 := ⟨by decide +kernel, rfl⟩
theorem dprog_9_1_4 : Dc prog_9_method_1_code 4 (.aload_n 1) 1 5 := ⟨by decide +kernel, rfl⟩
theorem dprog_9_1_5 : Dc prog_9_method_1_code 5 (.ldc 7) 2 7 := ⟨by decide +kernel, rfl⟩
theorem dprog_9_1_7 : Dc prog_9_method_1_code 7 (.invokestatic 9) 3 10 := ⟨by decide +kernel, rfl⟩
theorem dprog_9_1_10 : Dc prog_9_method_1_code 10 (.pop) 1 11 := ⟨by decide +kernel, rfl⟩
theorem dprog_9_1_11 : Dc prog_9_method_1_code 11 (.aload_n 2) 1 12 := ⟨by decide +kernel, rfl⟩
theorem dprog_9_1_12 : Dc prog_9_method_1_code 12 (.ldc 15) 2 14 := ⟨by decide +kernel, rfl⟩
theorem dprog_9_1_14 : Dc prog_9_method_1_code 14 (.invokestatic 9) 3 17 := ⟨by decide +kernel, rfl⟩
theorem dprog_9_1_17 : Dc prog_9_method_1_code 17 (.pop) 1 18 := ⟨by decide +kernel, rfl⟩
theorem dprog_9_1_18 : Dc prog_9_method_1_code 18 (.aload 6) 2 20 := ⟨by decide +kernel, rfl⟩
theorem dprog_9_1_20 : Dc prog_9_method_1_code 20 (.ldc 17) 2 22 := ⟨by decide +kernel, rfl⟩
theorem dprog_9_1_22 : Dc prog_9_method_1_code 22 (.invokestatic 9) 3 25 := ⟨by decide +kernel, rfl⟩
theorem dprog_9_1_25 : Dc prog_9_method_1_code 25 (.pop) 1 26 := ⟨by decide +kernel, rfl⟩
theorem dprog_9_1_26 : Dc prog_9_method_1_code 26 (.aload_n 0) 1 27 := ⟨by decide +kernel, rfl⟩
theorem dprog_9_1_27 : Dc prog_9_method_1_code 27 (.aload_n 1) 1 28 := ⟨by decide +kernel, rfl⟩
theorem dprog_9_1_28 : Dc prog_9_method_1_code 28 (.putfield 19) 3 31 := ⟨by decide +kernel, rfl⟩
theorem dprog_9_1_31 : Dc prog_9_method_1_code 31 (.aload_n 0) 1 32 := ⟨by decide +kernel, rfl⟩
theorem dprog_9_1_32 : Dc prog_9_method_1_code 32 (.aload_n 2) 1 33 := ⟨by decide +kernel, rfl⟩
theorem dprog_9_1_33 : Dc prog_9_method_1_code 33 (.putfield 24) 3 36 := ⟨by decide +kernel, rfl⟩
theorem dprog_9_1_36 : Dc prog_9_method_1_code 36 (.aload_n 0) 1 37 := ⟨by decide +kernel, rfl⟩
theorem dprog_9_1_37 : Dc prog_9_method_1_code 37 (.iload_n 3) 1 38 := ⟨by decide +kernel, rfl⟩
theorem dprog_9_1_38 : Dc prog_9_method_1_code 38 (.putfield 27) 3 41 := ⟨by decide +kernel, rfl⟩
theorem dprog_9_1_41 : Dc prog_9_method_1_code 41 (.aload_n 0) 1 42 := ⟨by decide +kernel, rfl⟩
theorem dprog_9_1_42 : Dc prog_9_method_1_code 42 (.lload 4) 2 44 := ⟨by decide +kernel, rfl⟩
theorem dprog_9_1_44 : Dc prog_9_method_1_code 44 (.putfield 31) 3 47 := ⟨by decide +kernel, rfl⟩
theorem dprog_9_1_47 : Dc prog_9_method_1_code 47 (.aload_n 0) 1 48 := ⟨by decide +kernel, rfl⟩
theorem dprog_9_1_48 : Dc prog_9_method_1_code 48 (.aload 6) 2 50 := ⟨by decide +kernel, rfl⟩
theorem dprog_9_1_50 : Dc prog_9_method_1_code 50 (.putfield 35) 3 53 := ⟨by decide +kernel, rfl⟩
theorem dprog_9_1_53 : Dc prog_9_method_1_code 53 (.aload_n 0) 1 54 := ⟨by decide +kernel, rfl⟩
theorem dprog_9_1_54 : Dc prog_9_method_1_code 54 (.lload 7) 2 56 := ⟨by decide +kernel, rfl⟩
theorem dprog_9_1_56 : Dc prog_9_method_1_code 56 (.putfield 37) 3 59 := ⟨by decide +kernel, rfl⟩
theorem dprog_9_1_59 : Dc prog_9_method_1_code 59 (.return_) 1 60 := ⟨by decide +kernel, rfl⟩
theorem dprog_9_2_0 : Dc prog_9_method_2_code 0 (.new 20) 3 3 := ⟨by decide +kernel, rfl⟩
theorem dprog_9_2_3 : Dc prog_9_method_2_code 3 (.dup) 1 4 := ⟨by decide +kernel, rfl⟩
theorem dprog_9_2_4 : Dc prog_9_method_2_code 4 (.aload_n 0) 1 5 := ⟨by decide +kernel, rfl⟩
theorem dprog_9_2_5 : Dc prog_9_method_2_code 5 (.getfield 19) 3 8 := ⟨by decide +kernel, rfl⟩
theorem dprog_9_2_8 : Dc prog_9_method_2_code 8 (.aload_n 0) 1 9 := ⟨by decide +kernel, rfl⟩
theorem dprog_9_2_9 : Dc prog_9_method_2_code 9 (.getfield 24) 3 12 := ⟨by decide +kernel, rfl⟩
theorem dprog_9_2_12 : Dc prog_9_method_2_code 12 (.aload_n 0) 1 13 := ⟨by decide +kernel, rfl⟩
theorem dprog_9_2_13 : Dc prog_9_method_2_code 13 (.getfield 27) 3 16 := ⟨by decide +kernel, rfl⟩
theorem dprog_9_2_16 : Dc prog_9_method_2_code 16 (.aload_n 0) 1 17 := ⟨by decide +kernel, rfl⟩
theorem dprog_9_2_17 : Dc prog_9_method_2_code 17 (.getfield 31) 3 20 := ⟨by decide +kernel, rfl⟩
theorem dprog_9_2_20 : Dc prog_9_method_2_code 20 (.aload_n 0) 1 21 := ⟨by decide +kernel, rfl⟩
theorem dprog_9_2_21 : Dc prog_9_method_2_code 21 (.getfield 35) 3 24 := ⟨by decide +kernel, rfl⟩
theorem dprog_9_2_24 : Dc prog_9_method_2_code 24 (.lload_n 1) 1 25 := ⟨by decide +kernel, rfl⟩
theorem dprog_9_2_25 : Dc prog_9_method_2_code 25 (.invokespecial 40) 3 28 := ⟨by decide +kernel, rfl⟩
theorem dprog_9_2_28 : Dc prog_9_method_2_code 28 (.areturn) 1 29 := ⟨by decide +kernel, rfl⟩
theorem dprog_9_6_0 : Dc prog_9_method_6_code 0 (.aload_n 0) 1 1 := ⟨by decide +kernel, rfl⟩
theorem dprog_9_6_1 : Dc prog_9_method_6_code 1 (.getfield 19) 3 4 := ⟨by decide +kernel, rfl⟩
theorem dprog_9_6_4 : Dc prog_9_method_6_code 4 (.areturn) 1 5 := ⟨by decide +kernel, rfl⟩
theorem dprog_9_7_0 : Dc prog_9_method_7_code 0 (.aload_n 0) 1 1 := ⟨by decide +kernel, rfl⟩
theorem dprog_9_7_1 : Dc prog_9_method_7_code 1 (.getfield 24) 3 4 := ⟨by decide +kernel, rfl⟩
theorem dprog_9_7_4 : Dc prog_9_method_7_code 4 (.areturn) 1 5 := ⟨by decide +kernel, rfl⟩
theorem dprog_9_8_0 : Dc prog_9_method_8_code 0 (.aload_n 0) 1 1 := ⟨by decide +kernel, rfl⟩
theorem dprog_9_8_1 : Dc prog_9_method_8_code 1 (.getfield 27) 3 4 := ⟨by decide +kernel, rfl⟩
theorem dprog_9_8_4 : Dc prog_9_method_8_code 4 (.ireturn) 1 5 := ⟨by decide +kernel, rfl⟩
theorem dprog_9_9_0 : Dc prog_9_method_9_code 0 (.aload_n 0) 1 1 := ⟨by decide +kernel, rfl⟩
theorem dprog_9_9_1 : Dc prog_9_method_9_code 1 (.getfield 31) 3 4 := ⟨by decide +kernel, rfl⟩
theorem dprog_9_9_4 : Dc prog_9_method_9_code 4 (.lreturn) 1 5 := ⟨by decide +kernel, rfl⟩
theorem pd_0 : parseMethodDescriptor "()B" = some ⟨[], some .byte⟩ := by decide +kernel
theorem pd_1 : parseMethodDescriptor "(IILjava/util/function/BiFunction;)I" = some ⟨[.int, .int, (.object "java/util/function/BiFunction")], some .int⟩ := by decide +kernel
theorem pd_2 : parseMethodDescriptor "(II)V" = some ⟨[.int, .int], none⟩ := by decide +kernel
theorem pd_3 : parseMethodDescriptor "()Z" = some ⟨[], some .boolean⟩ := by decide +kernel
theorem pd_4 : parseMethodDescriptor "([BI)C" = some ⟨[(.array .byte), .int], some .char⟩ := by decide +kernel
theorem pd_5 : parseMethodDescriptor "()V" = some ⟨[], none⟩ := by decide +kernel
theorem pd_6 : parseMethodDescriptor "(Ljava/lang/Object;Ljava/lang/String;)Ljava/lang/Object;" = some ⟨[(.object "java/lang/Object"), (.object "java/lang/String")], some (.object "java/lang/Object")⟩ := by decide +kernel
theorem pd_7 : parseMethodDescriptor "()I" = some ⟨[], some .int⟩ := by decide +kernel
theorem pd_8 : parseMethodDescriptor "(I)C" = some ⟨[.int], some .char⟩ := by decide +kernel
theorem pd_9 : parseMethodDescriptor "(C)Z" = some ⟨[.char], some .boolean⟩ := by decide +kernel
theorem pd_10 : parseMethodDescriptor "(Ljava/lang/String;Lcom/example/bounded_lock/boundedlock/engine/SemaphoreName;IJLjava/lang/String;J)V" = some ⟨[(.object "java/lang/String"), (.object "com/example/bounded_lock/boundedlock/engine/SemaphoreName"), .int, .long, (.object "java/lang/String"), .long], none⟩ := by decide +kernel
theorem pd_11 : parseMethodDescriptor "([CI[BII)I" = some ⟨[(.array .char), .int, (.array .byte), .int, .int], some .int⟩ := by decide +kernel
theorem pd_12 : parseMethodDescriptor "([CII)[B" = some ⟨[(.array .char), .int, .int], some (.array .byte)⟩ := by decide +kernel
theorem pd_13 : parseMethodDescriptor "([BI)B" = some ⟨[(.array .byte), .int], some .byte⟩ := by decide +kernel
theorem pd_14 : parseMethodDescriptor "([CIILjava/lang/Void;)V" = some ⟨[(.array .char), .int, .int, (.object "java/lang/Void")], none⟩ := by decide +kernel
theorem pd_15 : parseMethodDescriptor "(C)[B" = some ⟨[.char], some (.array .byte)⟩ := by decide +kernel
theorem pd_16 : parseMethodDescriptor "([BB)V" = some ⟨[(.array .byte), .byte], none⟩ := by decide +kernel
theorem pd_17 : parseMethodDescriptor "([C)V" = some ⟨[(.array .char)], none⟩ := by decide +kernel
theorem pd_18 : parseMethodDescriptor "(C)Ljava/lang/String;" = some ⟨[.char], some (.object "java/lang/String")⟩ := by decide +kernel
theorem pd_19 : parseMethodDescriptor "(Ljava/lang/String;)V" = some ⟨[(.object "java/lang/String")], none⟩ := by decide +kernel
theorem pd_20 : parseMethodDescriptor "(J)Lcom/example/bounded_lock/boundedlock/engine/Lease;" = some ⟨[.long], some (.object "com/example/bounded_lock/boundedlock/engine/Lease")⟩ := by decide +kernel
theorem pd_21 : parseMethodDescriptor "()Ljava/lang/String;" = some ⟨[], some (.object "java/lang/String")⟩ := by decide +kernel
theorem pd_22 : parseMethodDescriptor "()Lcom/example/bounded_lock/boundedlock/engine/SemaphoreName;" = some ⟨[], some (.object "com/example/bounded_lock/boundedlock/engine/SemaphoreName")⟩ := by decide +kernel
theorem pd_23 : parseMethodDescriptor "()J" = some ⟨[], some .long⟩ := by decide +kernel
theorem pn_0 : plainName "java/util/Objects" = true := by first | (simp [plainName, overriddenIn]; done) | decide +kernel
theorem pn_1 : plainName "java/lang/Record" = true := by first | (simp [plainName, overriddenIn]; done) | decide +kernel
theorem pn_2 : plainName "com/example/bounded_lock/boundedlock/engine/SemaphoreName" = true := by first | (simp [plainName, overriddenIn]; done) | decide +kernel
theorem pn_3 : plainName "java/lang/String" = true := by first | (simp [plainName, overriddenIn]; done) | decide +kernel
theorem pn_4 : plainName "jdk/internal/util/Preconditions" = true := by first | (simp [plainName, overriddenIn]; done) | decide +kernel
theorem pn_5 : plainName "java/lang/StringLatin1" = true := by first | (simp [plainName, overriddenIn]; done) | decide +kernel
theorem pn_6 : plainName "com/example/bounded_lock/boundedlock/engine/Lease" = true := by first | (simp [plainName, overriddenIn]; done) | decide +kernel
theorem pn_7 : plainName "java/lang/StringUTF16" = true := by first | (simp [plainName, overriddenIn]; done) | decide +kernel
theorem pn_8 : plainName "com/example/bounded_lock/boundedlock/engine/LeaseWithTtlMsPinLaw" = true := by first | (simp [plainName, overriddenIn]; done) | decide +kernel
set_option maxRecDepth 65536 in
set_option maxHeartbeats 40000000 in
theorem m_rnn {l : Launch} {Z : State} {a0 : Array Value} {n0 : Nat} (hw : ∀ d ∈ tables_1, d.before a0 Z = true) {h0 : Heap} {a b : Addr}  :
    Does l Z n0 ⟨"java/util/Objects", "requireNonNull", "(Ljava/lang/Object;Ljava/lang/String;)Ljava/lang/Object;"⟩ jdk_31_method_11_code 2 (some (.object "java/lang/Object")) [] { frames := 0, cells := 0, slots := 0, locals := 0 } #[(.ref a), (.ref b)] h0 (fun v h => v = some (.ref a) ∧ h0 = h) := by
  refine Does.start (plainFor_of_name pn_0) ?_
  intro p e s m below meth c T X
  replace X : Sd Z n0 0 jdk_31_method_11_code 2 "java/util/Objects" "requireNonNull" (some (.object "java/lang/Object")) h0 p l e { frames := 0, cells := 0, slots := 0, locals := 0 } s m #[(.ref a), (.ref b)] below meth c T [] 0 0 := X
  refine Wp.cast (g' := mkF m 0 #[.val (.ref a), .val (.ref b)] []) (by first | (simp [entryFrame, mkF, argsToLocals, Value.category, maxLocals]; done) | rfl) ?_
  refine w_aloadN X djdk_31_11_0 rfl (rfl) ?_
  refine w_ifnonnullT X djdk_31_11_1 ?_
  refine w_aloadN X djdk_31_11_13 rfl (rfl) ?_
  exact w_retR X rfl (rfl) rfl djdk_31_11_14 ⟨rfl, rfl⟩ (by decide) (by decide)
set_option maxRecDepth 65536 in
set_option maxHeartbeats 40000000 in
theorem m_rec {l : Launch} {Z : State} {a0 : Array Value} {n0 : Nat} (hw : ∀ d ∈ tables_1, d.before a0 Z = true) {h0 : Heap} {a : Addr}  :
    Does l Z n0 ⟨"java/lang/Record", "<init>", "()V"⟩ jdk_30_method_1_code 1 none [] { frames := 1, cells := 0, slots := 0, locals := 12 } #[(.ref a)] h0 (fun v h => v = none ∧ h0 = h) := by
  refine Does.start (plainFor_of_name pn_1) ?_
  intro p e s m below meth c T X
  replace X : Sd Z n0 0 jdk_30_method_1_code 1 "java/lang/Record" "<init>" none h0 p l e { frames := 1, cells := 0, slots := 0, locals := 12 } s m #[(.ref a)] below meth c T [] 0 0 := X
  refine Wp.cast (g' := mkF m 0 #[.val (.ref a)] []) (by first | (simp [entryFrame, mkF, argsToLocals, Value.category, maxLocals]; done) | rfl) ?_
  refine w_aloadN X djdk_30_1_0 rfl (rfl) ?_
  refine w_initO X djdk_30_1_1 (wd_58 hw) (wd_12 hw) (wd_13 hw) rfl (by decide) (Nat.le_of_ble_eq_true rfl) (fun T X => ?_)
  exact w_retV X djdk_30_1_4 ⟨rfl, rfl⟩ (by decide) (by decide)
set_option maxRecDepth 65536 in
set_option maxHeartbeats 40000000 in
theorem m_inc_106 {l : Launch} {Z : State} {a0 : Array Value} {n0 : Nat} (hw : ∀ d ∈ tables_1, d.before a0 Z = true) {h0 : Heap}   :
    Does l Z n0 ⟨"com/example/bounded_lock/boundedlock/engine/SemaphoreName", "isNameCharacter", "(C)Z"⟩ prog_12_method_2_code 1 (some .boolean) [] { frames := 0, cells := 0, slots := 0, locals := 0 } #[(.int (106 : Int32))] h0 (fun v h => v = some (.int (1 : Int32)) ∧ h0 = h) := by
  refine Does.start (plainFor_of_name pn_2) ?_
  intro p e s m below meth c T X
  replace X : Sd Z n0 0 prog_12_method_2_code 1 "com/example/bounded_lock/boundedlock/engine/SemaphoreName" "isNameCharacter" (some .boolean) h0 p l e { frames := 0, cells := 0, slots := 0, locals := 0 } s m #[(.int (106 : Int32))] below meth c T [] 0 0 := X
  refine Wp.cast (g' := mkF m 0 #[.val (.int (106 : Int32))] []) (by first | (simp [entryFrame, mkF, argsToLocals, Value.category, maxLocals]; done) | rfl) ?_
  refine w_iloadN X dprog_12_2_0 rfl ?_
  refine w_bipush X (65 : Int32) dprog_12_2_1 rfl ?_
  refine w_icmplt X dprog_12_2_3 (fun hc => absurd hc (by decide)) (fun _ => ?_)
  refine w_iloadN X dprog_12_2_6 rfl ?_
  refine w_bipush X (90 : Int32) dprog_12_2_7 rfl ?_
  refine w_icmple X dprog_12_2_9 (fun hc => absurd (by decide) hc) (fun _ => ?_)
  refine w_iloadN X dprog_12_2_12 rfl ?_
  refine w_bipush X (97 : Int32) dprog_12_2_13 rfl ?_
  refine w_icmplt X dprog_12_2_15 (fun hc => absurd hc (by decide)) (fun _ => ?_)
  refine w_iloadN X dprog_12_2_18 rfl ?_
  refine w_bipush X (122 : Int32) dprog_12_2_19 rfl ?_
  refine w_icmple X dprog_12_2_21 (fun _ => ?_) (fun hc => absurd hc (by decide))
  refine w_iconst X (1 : Int32) dprog_12_2_54 rfl ?_
  refine w_goto X dprog_12_2_55 ?_
  exact w_ret_boolean X (1 : Int32) (by decide) dprog_12_2_59 ⟨rfl, rfl⟩ (by decide) (by decide)
set_option maxRecDepth 65536 in
set_option maxHeartbeats 40000000 in
theorem m_inc_111 {l : Launch} {Z : State} {a0 : Array Value} {n0 : Nat} (hw : ∀ d ∈ tables_1, d.before a0 Z = true) {h0 : Heap}   :
    Does l Z n0 ⟨"com/example/bounded_lock/boundedlock/engine/SemaphoreName", "isNameCharacter", "(C)Z"⟩ prog_12_method_2_code 1 (some .boolean) [] { frames := 0, cells := 0, slots := 0, locals := 0 } #[(.int (111 : Int32))] h0 (fun v h => v = some (.int (1 : Int32)) ∧ h0 = h) := by
  refine Does.start (plainFor_of_name pn_2) ?_
  intro p e s m below meth c T X
  replace X : Sd Z n0 0 prog_12_method_2_code 1 "com/example/bounded_lock/boundedlock/engine/SemaphoreName" "isNameCharacter" (some .boolean) h0 p l e { frames := 0, cells := 0, slots := 0, locals := 0 } s m #[(.int (111 : Int32))] below meth c T [] 0 0 := X
  refine Wp.cast (g' := mkF m 0 #[.val (.int (111 : Int32))] []) (by first | (simp [entryFrame, mkF, argsToLocals, Value.category, maxLocals]; done) | rfl) ?_
  refine w_iloadN X dprog_12_2_0 rfl ?_
  refine w_bipush X (65 : Int32) dprog_12_2_1 rfl ?_
  refine w_icmplt X dprog_12_2_3 (fun hc => absurd hc (by decide)) (fun _ => ?_)
  refine w_iloadN X dprog_12_2_6 rfl ?_
  refine w_bipush X (90 : Int32) dprog_12_2_7 rfl ?_
  refine w_icmple X dprog_12_2_9 (fun hc => absurd (by decide) hc) (fun _ => ?_)
  refine w_iloadN X dprog_12_2_12 rfl ?_
  refine w_bipush X (97 : Int32) dprog_12_2_13 rfl ?_
  refine w_icmplt X dprog_12_2_15 (fun hc => absurd hc (by decide)) (fun _ => ?_)
  refine w_iloadN X dprog_12_2_18 rfl ?_
  refine w_bipush X (122 : Int32) dprog_12_2_19 rfl ?_
  refine w_icmple X dprog_12_2_21 (fun _ => ?_) (fun hc => absurd hc (by decide))
  refine w_iconst X (1 : Int32) dprog_12_2_54 rfl ?_
  refine w_goto X dprog_12_2_55 ?_
  exact w_ret_boolean X (1 : Int32) (by decide) dprog_12_2_59 ⟨rfl, rfl⟩ (by decide) (by decide)
set_option maxRecDepth 65536 in
set_option maxHeartbeats 40000000 in
theorem m_inc_98 {l : Launch} {Z : State} {a0 : Array Value} {n0 : Nat} (hw : ∀ d ∈ tables_1, d.before a0 Z = true) {h0 : Heap}   :
    Does l Z n0 ⟨"com/example/bounded_lock/boundedlock/engine/SemaphoreName", "isNameCharacter", "(C)Z"⟩ prog_12_method_2_code 1 (some .boolean) [] { frames := 0, cells := 0, slots := 0, locals := 0 } #[(.int (98 : Int32))] h0 (fun v h => v = some (.int (1 : Int32)) ∧ h0 = h) := by
  refine Does.start (plainFor_of_name pn_2) ?_
  intro p e s m below meth c T X
  replace X : Sd Z n0 0 prog_12_method_2_code 1 "com/example/bounded_lock/boundedlock/engine/SemaphoreName" "isNameCharacter" (some .boolean) h0 p l e { frames := 0, cells := 0, slots := 0, locals := 0 } s m #[(.int (98 : Int32))] below meth c T [] 0 0 := X
  refine Wp.cast (g' := mkF m 0 #[.val (.int (98 : Int32))] []) (by first | (simp [entryFrame, mkF, argsToLocals, Value.category, maxLocals]; done) | rfl) ?_
  refine w_iloadN X dprog_12_2_0 rfl ?_
  refine w_bipush X (65 : Int32) dprog_12_2_1 rfl ?_
  refine w_icmplt X dprog_12_2_3 (fun hc => absurd hc (by decide)) (fun _ => ?_)
  refine w_iloadN X dprog_12_2_6 rfl ?_
  refine w_bipush X (90 : Int32) dprog_12_2_7 rfl ?_
  refine w_icmple X dprog_12_2_9 (fun hc => absurd (by decide) hc) (fun _ => ?_)
  refine w_iloadN X dprog_12_2_12 rfl ?_
  refine w_bipush X (97 : Int32) dprog_12_2_13 rfl ?_
  refine w_icmplt X dprog_12_2_15 (fun hc => absurd hc (by decide)) (fun _ => ?_)
  refine w_iloadN X dprog_12_2_18 rfl ?_
  refine w_bipush X (122 : Int32) dprog_12_2_19 rfl ?_
  refine w_icmple X dprog_12_2_21 (fun _ => ?_) (fun hc => absurd hc (by decide))
  refine w_iconst X (1 : Int32) dprog_12_2_54 rfl ?_
  refine w_goto X dprog_12_2_55 ?_
  exact w_ret_boolean X (1 : Int32) (by decide) dprog_12_2_59 ⟨rfl, rfl⟩ (by decide) (by decide)
set_option maxRecDepth 65536 in
set_option maxHeartbeats 40000000 in
theorem m_inc_115 {l : Launch} {Z : State} {a0 : Array Value} {n0 : Nat} (hw : ∀ d ∈ tables_1, d.before a0 Z = true) {h0 : Heap}   :
    Does l Z n0 ⟨"com/example/bounded_lock/boundedlock/engine/SemaphoreName", "isNameCharacter", "(C)Z"⟩ prog_12_method_2_code 1 (some .boolean) [] { frames := 0, cells := 0, slots := 0, locals := 0 } #[(.int (115 : Int32))] h0 (fun v h => v = some (.int (1 : Int32)) ∧ h0 = h) := by
  refine Does.start (plainFor_of_name pn_2) ?_
  intro p e s m below meth c T X
  replace X : Sd Z n0 0 prog_12_method_2_code 1 "com/example/bounded_lock/boundedlock/engine/SemaphoreName" "isNameCharacter" (some .boolean) h0 p l e { frames := 0, cells := 0, slots := 0, locals := 0 } s m #[(.int (115 : Int32))] below meth c T [] 0 0 := X
  refine Wp.cast (g' := mkF m 0 #[.val (.int (115 : Int32))] []) (by first | (simp [entryFrame, mkF, argsToLocals, Value.category, maxLocals]; done) | rfl) ?_
  refine w_iloadN X dprog_12_2_0 rfl ?_
  refine w_bipush X (65 : Int32) dprog_12_2_1 rfl ?_
  refine w_icmplt X dprog_12_2_3 (fun hc => absurd hc (by decide)) (fun _ => ?_)
  refine w_iloadN X dprog_12_2_6 rfl ?_
  refine w_bipush X (90 : Int32) dprog_12_2_7 rfl ?_
  refine w_icmple X dprog_12_2_9 (fun hc => absurd (by decide) hc) (fun _ => ?_)
  refine w_iloadN X dprog_12_2_12 rfl ?_
  refine w_bipush X (97 : Int32) dprog_12_2_13 rfl ?_
  refine w_icmplt X dprog_12_2_15 (fun hc => absurd hc (by decide)) (fun _ => ?_)
  refine w_iloadN X dprog_12_2_18 rfl ?_
  refine w_bipush X (122 : Int32) dprog_12_2_19 rfl ?_
  refine w_icmple X dprog_12_2_21 (fun _ => ?_) (fun hc => absurd hc (by decide))
  refine w_iconst X (1 : Int32) dprog_12_2_54 rfl ?_
  refine w_goto X dprog_12_2_55 ?_
  exact w_ret_boolean X (1 : Int32) (by decide) dprog_12_2_59 ⟨rfl, rfl⟩ (by decide) (by decide)
set_option maxRecDepth 65536 in
set_option maxHeartbeats 40000000 in
theorem m_cdr {l : Launch} {Z : State} {a0 : Array Value} {n0 : Nat} (hw : ∀ d ∈ tables_1, d.before a0 Z = true) {h0 : Heap} {zc : Int32} {fm : Value} {a : Addr} (S_zc : Sta Z Z.heap "java/lang/String" "COMPACT_STRINGS" "Z" (.int zc)) (hzc : ¬ zc = 0) (S_fm : Sta Z Z.heap "jdk/internal/util/Preconditions" "SIOOBE_FORMATTER" "Ljava/util/function/BiFunction;" fm) (hfm : fm.isRef = true) (Ca : Fld Z h0 a "java/lang/String" "coder" "B" (.int (0 : Int32))) :
    Does l Z n0 ⟨"java/lang/String", "coder", "()B"⟩ jdk_42_method_152_code 1 (some .byte) [] { frames := 0, cells := 0, slots := 0, locals := 0 } #[(.ref a)] h0 (fun v h => v = some (.int (0 : Int32)) ∧ h0 = h) := by
  refine Does.start (plainFor_of_name pn_3) ?_
  intro p e s m below meth c T X
  replace X : Sd Z n0 0 jdk_42_method_152_code 1 "java/lang/String" "coder" (some .byte) h0 p l e { frames := 0, cells := 0, slots := 0, locals := 0 } s m #[(.ref a)] below meth c T [] 0 0 := X
  refine Wp.cast (g' := mkF m 0 #[.val (.ref a)] []) (by first | (simp [entryFrame, mkF, argsToLocals, Value.category, maxLocals]; done) | rfl) ?_
  refine w_getS X djdk_42_152_0 (host := "") (Or.inl (wd_14 hw)) Via.refl (S_zc.ext X.old.2) (fun T X => ?_)
  refine w_ifeq X djdk_42_152_3 (fun hc => absurd hc hzc) (fun _ => ?_)
  refine w_aloadN X djdk_42_152_6 rfl (rfl) ?_
  refine w_getF X djdk_42_152_7 (host := "") (Or.inl (wd_26 hw)) Via.refl Ca (fun T X => ?_)
  refine w_goto X djdk_42_152_10 ?_
  exact w_ret_byte X (0 : Int32) (by decide) djdk_42_152_14 ⟨rfl, rfl⟩ (by decide) (by decide)
set_option maxRecDepth 65536 in
set_option maxHeartbeats 40000000 in
theorem m_len_4 {l : Launch} {Z : State} {a0 : Array Value} {n0 : Nat} (hw : ∀ d ∈ tables_1, d.before a0 Z = true) {h0 : Heap} {zc : Int32} {fm : Value} {a t : Addr} {x0 x1 x2 x3 : Int32} (S_zc : Sta Z Z.heap "java/lang/String" "COMPACT_STRINGS" "Z" (.int zc)) (hzc : ¬ zc = 0) (S_fm : Sta Z Z.heap "jdk/internal/util/Preconditions" "SIOOBE_FORMATTER" "Ljava/util/function/BiFunction;" fm) (hfm : fm.isRef = true) (Ea : Exa Z h0 a "java/lang/String") (Ca : Fld Z h0 a "java/lang/String" "coder" "B" (.int (0 : Int32))) (Va : Fld Z h0 a "java/lang/String" "value" "[B" (.ref t)) (At : Ary Z h0 t .byte [(.int x0), (.int x1), (.int x2), (.int x3)]) :
    Does l Z n0 ⟨"java/lang/String", "length", "()I"⟩ jdk_42_method_54_code 1 (some .int) [] { frames := 1, cells := 0, slots := 0, locals := 13 } #[(.ref a)] h0 (fun v h => v = some (.int (4 : Int32)) ∧ h0 = h) := by
  refine Does.start (plainFor_of_name pn_3) ?_
  intro p e s m below meth c T X
  replace X : Sd Z n0 0 jdk_42_method_54_code 1 "java/lang/String" "length" (some .int) h0 p l e { frames := 1, cells := 0, slots := 0, locals := 13 } s m #[(.ref a)] below meth c T [] 0 0 := X
  refine Wp.cast (g' := mkF m 0 #[.val (.ref a)] []) (by first | (simp [entryFrame, mkF, argsToLocals, Value.category, maxLocals]; done) | rfl) ?_
  refine w_aloadN X djdk_42_54_0 rfl (rfl) ?_
  refine w_getF X djdk_42_54_1 (host := "") (Or.inl (wd_28 hw)) Via.refl Va (fun T X => ?_)
  refine w_arrlen X (4 : Int32) djdk_42_54_4 At rfl ?_
  refine w_aloadN X djdk_42_54_5 rfl (rfl) ?_
  refine w_callV X djdk_42_54_6 (wd_69 hw) (wd_70 hw) (notFace_of_selects (args := #[]) (mvT X.hZ (wd_72 hw))) (wd_72 hw) (wd_71 hw) (wd_3 hw) (wd_73 hw) (by decide) Ea (argsL := []) (S := [(.int (4 : Int32))]) (m_cdr hw S_zc hzc S_fm hfm Ca) pd_0 rfl rfl rfl (by decide) (Nat.le_of_ble_eq_true rfl) (by decide) (by decide) (fun T h1 v1 L1 X q1 => ?_)
  obtain ⟨rfl, rfl⟩ := q1
  show Wp p e below _ (T.setTop (mkF m 9 #[.val (.ref a)] [(.int (0 : Int32)), (.int (4 : Int32))]))
  refine w_ishr X djdk_42_54_9 ?_
  exact w_retI X djdk_42_54_10 ⟨rfl, rfl⟩ (by decide) (by decide)
set_option maxRecDepth 65536 in
set_option maxHeartbeats 40000000 in
theorem m_emp_4 {l : Launch} {Z : State} {a0 : Array Value} {n0 : Nat} (hw : ∀ d ∈ tables_1, d.before a0 Z = true) {h0 : Heap} {a t : Addr} {x0 x1 x2 x3 : Int32} (Ea : Exa Z h0 a "java/lang/String") (Ca : Fld Z h0 a "java/lang/String" "coder" "B" (.int (0 : Int32))) (Va : Fld Z h0 a "java/lang/String" "value" "[B" (.ref t)) (At : Ary Z h0 t .byte [(.int x0), (.int x1), (.int x2), (.int x3)]) :
    Does l Z n0 ⟨"java/lang/String", "isEmpty", "()Z"⟩ jdk_42_method_55_code 1 (some .boolean) [] { frames := 0, cells := 0, slots := 0, locals := 0 } #[(.ref a)] h0 (fun v h => v = some (.int (0 : Int32)) ∧ h0 = h) := by
  refine Does.start (plainFor_of_name pn_3) ?_
  intro p e s m below meth c T X
  replace X : Sd Z n0 0 jdk_42_method_55_code 1 "java/lang/String" "isEmpty" (some .boolean) h0 p l e { frames := 0, cells := 0, slots := 0, locals := 0 } s m #[(.ref a)] below meth c T [] 0 0 := X
  refine Wp.cast (g' := mkF m 0 #[.val (.ref a)] []) (by first | (simp [entryFrame, mkF, argsToLocals, Value.category, maxLocals]; done) | rfl) ?_
  refine w_aloadN X djdk_42_55_0 rfl (rfl) ?_
  refine w_getF X djdk_42_55_1 (host := "") (Or.inl (wd_28 hw)) Via.refl Va (fun T X => ?_)
  refine w_arrlen X (4 : Int32) djdk_42_55_4 At rfl ?_
  refine w_ifne X djdk_42_55_5 (fun _ => ?_) (fun hc => absurd hc (by decide))
  refine w_iconst X (0 : Int32) djdk_42_55_12 rfl ?_
  exact w_ret_boolean X (0 : Int32) (by decide) djdk_42_55_13 ⟨rfl, rfl⟩ (by decide) (by decide)
set_option maxRecDepth 65536 in
set_option maxHeartbeats 40000000 in
theorem m_pci {l : Launch} {Z : State} {a0 : Array Value} {n0 : Nat} (hw : ∀ d ∈ tables_1, d.before a0 Z = true) {h0 : Heap} {i n : Int32} {fm : Value} (hfm : fm.isRef = true) (hi : ¬ i < 0) (hn : i < n) :
    Does l Z n0 ⟨"jdk/internal/util/Preconditions", "checkIndex", "(IILjava/util/function/BiFunction;)I"⟩ jdk_41_method_11_code 3 (some .int) [] { frames := 0, cells := 0, slots := 0, locals := 0 } #[(.int i), (.int n), fm] h0 (fun v h => v = some (.int i) ∧ h0 = h) := by
  refine Does.start (plainFor_of_name pn_4) ?_
  intro p e s m below meth c T X
  replace X : Sd Z n0 0 jdk_41_method_11_code 3 "jdk/internal/util/Preconditions" "checkIndex" (some .int) h0 p l e { frames := 0, cells := 0, slots := 0, locals := 0 } s m #[(.int i), (.int n), fm] below meth c T [] 0 0 := X
  refine Wp.cast (g' := mkF m 0 #[.val (.int i), .val (.int n), .val fm] []) (by rcases ref_cases hfm with rfl | ⟨_, rfl⟩ <;> first | (simp [entryFrame, mkF, argsToLocals, Value.category, maxLocals]; done) | rfl) ?_
  refine w_iloadN X djdk_41_11_0 rfl ?_
  refine w_iflt X djdk_41_11_1 (fun hc => absurd hc hi) (fun _ => ?_)
  refine w_iloadN X djdk_41_11_4 rfl ?_
  refine w_iloadN X djdk_41_11_5 rfl ?_
  refine w_icmplt X djdk_41_11_6 (fun _ => ?_) (fun hc => absurd hn hc)
  refine w_iloadN X djdk_41_11_16 rfl ?_
  exact w_retI X djdk_41_11_17 ⟨rfl, rfl⟩ (by decide) (by decide)
set_option maxRecDepth 65536 in
set_option maxHeartbeats 40000000 in
theorem m_sci {l : Launch} {Z : State} {a0 : Array Value} {n0 : Nat} (hw : ∀ d ∈ tables_1, d.before a0 Z = true) {h0 : Heap} {zc : Int32} {fm : Value} {i n : Int32} (S_zc : Sta Z Z.heap "java/lang/String" "COMPACT_STRINGS" "Z" (.int zc)) (hzc : ¬ zc = 0) (S_fm : Sta Z Z.heap "jdk/internal/util/Preconditions" "SIOOBE_FORMATTER" "Ljava/util/function/BiFunction;" fm) (hfm : fm.isRef = true) (hi : ¬ i < 0) (hn : i < n) :
    Does l Z n0 ⟨"java/lang/String", "checkIndex", "(II)V"⟩ jdk_42_method_155_code 2 none [] { frames := 1, cells := 0, slots := 0, locals := 14 } #[(.int i), (.int n)] h0 (fun v h => v = none ∧ h0 = h) := by
  refine Does.start (plainFor_of_name pn_3) ?_
  intro p e s m below meth c T X
  replace X : Sd Z n0 0 jdk_42_method_155_code 2 "java/lang/String" "checkIndex" none h0 p l e { frames := 1, cells := 0, slots := 0, locals := 14 } s m #[(.int i), (.int n)] below meth c T [] 0 0 := X
  refine Wp.cast (g' := mkF m 0 #[.val (.int i), .val (.int n)] []) (by first | (simp [entryFrame, mkF, argsToLocals, Value.category, maxLocals]; done) | rfl) ?_
  refine w_iloadN X djdk_42_155_0 rfl ?_
  refine w_iloadN X djdk_42_155_1 rfl ?_
  refine w_getS X djdk_42_155_2 (host := "") (Or.inl (wd_90 hw)) Via.refl (S_fm.ext X.old.2) (fun T X => ?_)
  refine w_callS X djdk_42_155_5 (wd_92 hw) (wd_93 hw) (wd_91 hw) (wd_94 hw) (by decide) (argsL := [(.int i), (.int n), fm]) (S := []) (m_pci hw hfm hi hn) pd_1 rfl rfl rfl (by decide) (Nat.le_of_ble_eq_true rfl) (by decide) (by decide) (fun T h1 v1 L1 X q1 => ?_)
  obtain ⟨rfl, rfl⟩ := q1
  show Wp p e below _ (T.setTop (mkF m 8 #[.val (.int i), .val (.int n)] [(.int i)]))
  refine w_pop X djdk_42_155_8 rfl ?_
  exact w_retV X djdk_42_155_9 ⟨rfl, rfl⟩ (by decide) (by decide)
set_option maxRecDepth 65536 in
set_option maxHeartbeats 40000000 in
theorem m_lca_4_0 {l : Launch} {Z : State} {a0 : Array Value} {n0 : Nat} (hw : ∀ d ∈ tables_1, d.before a0 Z = true) {h0 : Heap} {zc : Int32} {fm : Value} {t : Addr} {x0 x1 x2 x3 : Int32} (S_zc : Sta Z Z.heap "java/lang/String" "COMPACT_STRINGS" "Z" (.int zc)) (hzc : ¬ zc = 0) (S_fm : Sta Z Z.heap "jdk/internal/util/Preconditions" "SIOOBE_FORMATTER" "Ljava/util/function/BiFunction;" fm) (hfm : fm.isRef = true) (At : Ary Z h0 t .byte [(.int x0), (.int x1), (.int x2), (.int x3)]) :
    Does l Z n0 ⟨"java/lang/StringLatin1", "charAt", "([BI)C"⟩ jdk_43_method_2_code 2 (some .char) [] { frames := 2, cells := 0, slots := 0, locals := 27 } #[(.ref t), (.int (0 : Int32))] h0 (fun v h => v = some (.int ((x0 &&& (255 : Int32)).toUInt32.toUInt16.toUInt32.toInt32)) ∧ h0 = h) := by
  refine Does.start (plainFor_of_name pn_5) ?_
  intro p e s m below meth c T X
  replace X : Sd Z n0 0 jdk_43_method_2_code 2 "java/lang/StringLatin1" "charAt" (some .char) h0 p l e { frames := 2, cells := 0, slots := 0, locals := 27 } s m #[(.ref t), (.int (0 : Int32))] below meth c T [] 0 0 := X
  refine Wp.cast (g' := mkF m 0 #[.val (.ref t), .val (.int (0 : Int32))] []) (by first | (simp [entryFrame, mkF, argsToLocals, Value.category, maxLocals]; done) | rfl) ?_
  refine w_iloadN X djdk_43_2_0 rfl ?_
  refine w_aloadN X djdk_43_2_1 rfl (rfl) ?_
  refine w_arrlen X (4 : Int32) djdk_43_2_2 At rfl ?_
  refine w_callS X djdk_43_2_3 (wd_87 hw) (wd_88 hw) (wd_3 hw) (wd_89 hw) (by decide) (argsL := [(.int (0 : Int32)), (.int (4 : Int32))]) (S := []) (m_sci hw S_zc hzc S_fm hfm (by decide) (by decide)) pd_2 rfl rfl rfl (by decide) (Nat.le_of_ble_eq_true rfl) (by decide) (by decide) (fun T h1 v1 L1 X q1 => ?_)
  obtain ⟨rfl, rfl⟩ := q1
  show Wp p e below _ (T.setTop (mkF m 6 #[.val (.ref t), .val (.int (0 : Int32))] []))
  refine w_aloadN X djdk_43_2_6 rfl (rfl) ?_
  refine w_iloadN X djdk_43_2_7 rfl ?_
  refine w_baload X djdk_43_2_8 At (by decide) rfl ?_
  refine w_sipush X (255 : Int32) djdk_43_2_9 rfl ?_
  refine w_iand X djdk_43_2_12 ?_
  refine w_i2c X djdk_43_2_13 ?_
  exact w_ret_char X ((x0 &&& (255 : Int32)).toUInt32.toUInt16.toUInt32.toInt32) (own_nar_c _) djdk_43_2_14 ⟨rfl, rfl⟩ (by decide) (by decide)
set_option maxRecDepth 65536 in
set_option maxHeartbeats 40000000 in
theorem m_isl {l : Launch} {Z : State} {a0 : Array Value} {n0 : Nat} (hw : ∀ d ∈ tables_1, d.before a0 Z = true) {h0 : Heap} {zc : Int32} {fm : Value} {a : Addr} (S_zc : Sta Z Z.heap "java/lang/String" "COMPACT_STRINGS" "Z" (.int zc)) (hzc : ¬ zc = 0) (S_fm : Sta Z Z.heap "jdk/internal/util/Preconditions" "SIOOBE_FORMATTER" "Ljava/util/function/BiFunction;" fm) (hfm : fm.isRef = true) (Ca : Fld Z h0 a "java/lang/String" "coder" "B" (.int (0 : Int32))) :
    Does l Z n0 ⟨"java/lang/String", "isLatin1", "()Z"⟩ jdk_42_method_154_code 1 (some .boolean) [] { frames := 0, cells := 0, slots := 0, locals := 0 } #[(.ref a)] h0 (fun v h => v = some (.int (1 : Int32)) ∧ h0 = h) := by
  refine Does.start (plainFor_of_name pn_3) ?_
  intro p e s m below meth c T X
  replace X : Sd Z n0 0 jdk_42_method_154_code 1 "java/lang/String" "isLatin1" (some .boolean) h0 p l e { frames := 0, cells := 0, slots := 0, locals := 0 } s m #[(.ref a)] below meth c T [] 0 0 := X
  refine Wp.cast (g' := mkF m 0 #[.val (.ref a)] []) (by first | (simp [entryFrame, mkF, argsToLocals, Value.category, maxLocals]; done) | rfl) ?_
  refine w_getS X djdk_42_154_0 (host := "") (Or.inl (wd_14 hw)) Via.refl (S_zc.ext X.old.2) (fun T X => ?_)
  refine w_ifeq X djdk_42_154_3 (fun hc => absurd hc hzc) (fun _ => ?_)
  refine w_aloadN X djdk_42_154_6 rfl (rfl) ?_
  refine w_getF X djdk_42_154_7 (host := "") (Or.inl (wd_26 hw)) Via.refl Ca (fun T X => ?_)
  refine w_ifne X djdk_42_154_10 (fun hc => absurd rfl hc) (fun _ => ?_)
  refine w_iconst X (1 : Int32) djdk_42_154_13 rfl ?_
  refine w_goto X djdk_42_154_14 ?_
  exact w_ret_boolean X (1 : Int32) (by decide) djdk_42_154_18 ⟨rfl, rfl⟩ (by decide) (by decide)
set_option maxRecDepth 65536 in
set_option maxHeartbeats 40000000 in
theorem m_ca_4_0 {l : Launch} {Z : State} {a0 : Array Value} {n0 : Nat} (hw : ∀ d ∈ tables_1, d.before a0 Z = true) {h0 : Heap} {zc : Int32} {fm : Value} {a t : Addr} {r : Int32} {x0 x1 x2 x3 : Int32} (S_zc : Sta Z Z.heap "java/lang/String" "COMPACT_STRINGS" "Z" (.int zc)) (hzc : ¬ zc = 0) (S_fm : Sta Z Z.heap "jdk/internal/util/Preconditions" "SIOOBE_FORMATTER" "Ljava/util/function/BiFunction;" fm) (hfm : fm.isRef = true) (Ea : Exa Z h0 a "java/lang/String") (Ca : Fld Z h0 a "java/lang/String" "coder" "B" (.int (0 : Int32))) (Va : Fld Z h0 a "java/lang/String" "value" "[B" (.ref t)) (At : Ary Z h0 t .byte [(.int x0), (.int x1), (.int x2), (.int x3)]) (hr : (x0 &&& (255 : Int32)).toUInt32.toUInt16.toUInt32.toInt32 = r) :
    Does l Z n0 ⟨"java/lang/String", "charAt", "(I)C"⟩ jdk_42_method_56_code 2 (some .char) [] { frames := 3, cells := 0, slots := 0, locals := 40 } #[(.ref a), (.int (0 : Int32))] h0 (fun v h => v = some (.int r) ∧ h0 = h) := by
  refine Does.start (plainFor_of_name pn_3) ?_
  intro p e s m below meth c T X
  replace X : Sd Z n0 0 jdk_42_method_56_code 2 "java/lang/String" "charAt" (some .char) h0 p l e { frames := 3, cells := 0, slots := 0, locals := 40 } s m #[(.ref a), (.int (0 : Int32))] below meth c T [] 0 0 := X
  refine Wp.cast (g' := mkF m 0 #[.val (.ref a), .val (.int (0 : Int32))] []) (by first | (simp [entryFrame, mkF, argsToLocals, Value.category, maxLocals]; done) | rfl) ?_
  refine w_aloadN X djdk_42_56_0 rfl (rfl) ?_
  refine w_callV X djdk_42_56_1 (wd_79 hw) (wd_80 hw) (notFace_of_selects (args := #[]) (mvT X.hZ (wd_82 hw))) (wd_82 hw) (wd_81 hw) (wd_3 hw) (wd_83 hw) (by decide) Ea (argsL := []) (S := []) (m_isl hw S_zc hzc S_fm hfm Ca) pd_3 rfl rfl rfl (by decide) (Nat.le_of_ble_eq_true rfl) (by decide) (by decide) (fun T h1 v1 L1 X q1 => ?_)
  obtain ⟨rfl, rfl⟩ := q1
  show Wp p e below _ (T.setTop (mkF m 4 #[.val (.ref a), .val (.int (0 : Int32))] [(.int (1 : Int32))]))
  refine w_ifeq X djdk_42_56_4 (fun hc => absurd hc (by decide)) (fun _ => ?_)
  refine w_aloadN X djdk_42_56_7 rfl (rfl) ?_
  refine w_getF X djdk_42_56_8 (host := "") (Or.inl (wd_28 hw)) Via.refl Va (fun T X => ?_)
  refine w_iloadN X djdk_42_56_11 rfl ?_
  refine w_callS X djdk_42_56_12 (wd_84 hw) (wd_85 hw) (wd_35 hw) (wd_86 hw) (by decide) (argsL := [(.ref t), (.int (0 : Int32))]) (S := []) (m_lca_4_0 hw S_zc hzc S_fm hfm At) pd_4 rfl rfl rfl (by decide) (Nat.le_of_ble_eq_true rfl) (by decide) (by decide) (fun T h2 v2 L2 X q2 => ?_)
  obtain ⟨rfl, rfl⟩ := q2
  show Wp p e below _ (T.setTop (mkF m 15 #[.val (.ref a), .val (.int (0 : Int32))] [(.int ((x0 &&& (255 : Int32)).toUInt32.toUInt16.toUInt32.toInt32))]))
  exact w_ret_char X ((x0 &&& (255 : Int32)).toUInt32.toUInt16.toUInt32.toInt32) (own_nar_c _) djdk_42_56_15 ⟨by rw [hr], rfl⟩ (by decide) (by decide)
set_option maxRecDepth 65536 in
set_option maxHeartbeats 40000000 in
theorem m_lca_4_1 {l : Launch} {Z : State} {a0 : Array Value} {n0 : Nat} (hw : ∀ d ∈ tables_1, d.before a0 Z = true) {h0 : Heap} {zc : Int32} {fm : Value} {t : Addr} {x0 x1 x2 x3 : Int32} (S_zc : Sta Z Z.heap "java/lang/String" "COMPACT_STRINGS" "Z" (.int zc)) (hzc : ¬ zc = 0) (S_fm : Sta Z Z.heap "jdk/internal/util/Preconditions" "SIOOBE_FORMATTER" "Ljava/util/function/BiFunction;" fm) (hfm : fm.isRef = true) (At : Ary Z h0 t .byte [(.int x0), (.int x1), (.int x2), (.int x3)]) :
    Does l Z n0 ⟨"java/lang/StringLatin1", "charAt", "([BI)C"⟩ jdk_43_method_2_code 2 (some .char) [] { frames := 2, cells := 0, slots := 0, locals := 27 } #[(.ref t), (.int (1 : Int32))] h0 (fun v h => v = some (.int ((x1 &&& (255 : Int32)).toUInt32.toUInt16.toUInt32.toInt32)) ∧ h0 = h) := by
  refine Does.start (plainFor_of_name pn_5) ?_
  intro p e s m below meth c T X
  replace X : Sd Z n0 0 jdk_43_method_2_code 2 "java/lang/StringLatin1" "charAt" (some .char) h0 p l e { frames := 2, cells := 0, slots := 0, locals := 27 } s m #[(.ref t), (.int (1 : Int32))] below meth c T [] 0 0 := X
  refine Wp.cast (g' := mkF m 0 #[.val (.ref t), .val (.int (1 : Int32))] []) (by first | (simp [entryFrame, mkF, argsToLocals, Value.category, maxLocals]; done) | rfl) ?_
  refine w_iloadN X djdk_43_2_0 rfl ?_
  refine w_aloadN X djdk_43_2_1 rfl (rfl) ?_
  refine w_arrlen X (4 : Int32) djdk_43_2_2 At rfl ?_
  refine w_callS X djdk_43_2_3 (wd_87 hw) (wd_88 hw) (wd_3 hw) (wd_89 hw) (by decide) (argsL := [(.int (1 : Int32)), (.int (4 : Int32))]) (S := []) (m_sci hw S_zc hzc S_fm hfm (by decide) (by decide)) pd_2 rfl rfl rfl (by decide) (Nat.le_of_ble_eq_true rfl) (by decide) (by decide) (fun T h1 v1 L1 X q1 => ?_)
  obtain ⟨rfl, rfl⟩ := q1
  show Wp p e below _ (T.setTop (mkF m 6 #[.val (.ref t), .val (.int (1 : Int32))] []))
  refine w_aloadN X djdk_43_2_6 rfl (rfl) ?_
  refine w_iloadN X djdk_43_2_7 rfl ?_
  refine w_baload X djdk_43_2_8 At (by decide) rfl ?_
  refine w_sipush X (255 : Int32) djdk_43_2_9 rfl ?_
  refine w_iand X djdk_43_2_12 ?_
  refine w_i2c X djdk_43_2_13 ?_
  exact w_ret_char X ((x1 &&& (255 : Int32)).toUInt32.toUInt16.toUInt32.toInt32) (own_nar_c _) djdk_43_2_14 ⟨rfl, rfl⟩ (by decide) (by decide)
set_option maxRecDepth 65536 in
set_option maxHeartbeats 40000000 in
theorem m_ca_4_1 {l : Launch} {Z : State} {a0 : Array Value} {n0 : Nat} (hw : ∀ d ∈ tables_1, d.before a0 Z = true) {h0 : Heap} {zc : Int32} {fm : Value} {a t : Addr} {r : Int32} {x0 x1 x2 x3 : Int32} (S_zc : Sta Z Z.heap "java/lang/String" "COMPACT_STRINGS" "Z" (.int zc)) (hzc : ¬ zc = 0) (S_fm : Sta Z Z.heap "jdk/internal/util/Preconditions" "SIOOBE_FORMATTER" "Ljava/util/function/BiFunction;" fm) (hfm : fm.isRef = true) (Ea : Exa Z h0 a "java/lang/String") (Ca : Fld Z h0 a "java/lang/String" "coder" "B" (.int (0 : Int32))) (Va : Fld Z h0 a "java/lang/String" "value" "[B" (.ref t)) (At : Ary Z h0 t .byte [(.int x0), (.int x1), (.int x2), (.int x3)]) (hr : (x1 &&& (255 : Int32)).toUInt32.toUInt16.toUInt32.toInt32 = r) :
    Does l Z n0 ⟨"java/lang/String", "charAt", "(I)C"⟩ jdk_42_method_56_code 2 (some .char) [] { frames := 3, cells := 0, slots := 0, locals := 40 } #[(.ref a), (.int (1 : Int32))] h0 (fun v h => v = some (.int r) ∧ h0 = h) := by
  refine Does.start (plainFor_of_name pn_3) ?_
  intro p e s m below meth c T X
  replace X : Sd Z n0 0 jdk_42_method_56_code 2 "java/lang/String" "charAt" (some .char) h0 p l e { frames := 3, cells := 0, slots := 0, locals := 40 } s m #[(.ref a), (.int (1 : Int32))] below meth c T [] 0 0 := X
  refine Wp.cast (g' := mkF m 0 #[.val (.ref a), .val (.int (1 : Int32))] []) (by first | (simp [entryFrame, mkF, argsToLocals, Value.category, maxLocals]; done) | rfl) ?_
  refine w_aloadN X djdk_42_56_0 rfl (rfl) ?_
  refine w_callV X djdk_42_56_1 (wd_79 hw) (wd_80 hw) (notFace_of_selects (args := #[]) (mvT X.hZ (wd_82 hw))) (wd_82 hw) (wd_81 hw) (wd_3 hw) (wd_83 hw) (by decide) Ea (argsL := []) (S := []) (m_isl hw S_zc hzc S_fm hfm Ca) pd_3 rfl rfl rfl (by decide) (Nat.le_of_ble_eq_true rfl) (by decide) (by decide) (fun T h1 v1 L1 X q1 => ?_)
  obtain ⟨rfl, rfl⟩ := q1
  show Wp p e below _ (T.setTop (mkF m 4 #[.val (.ref a), .val (.int (1 : Int32))] [(.int (1 : Int32))]))
  refine w_ifeq X djdk_42_56_4 (fun hc => absurd hc (by decide)) (fun _ => ?_)
  refine w_aloadN X djdk_42_56_7 rfl (rfl) ?_
  refine w_getF X djdk_42_56_8 (host := "") (Or.inl (wd_28 hw)) Via.refl Va (fun T X => ?_)
  refine w_iloadN X djdk_42_56_11 rfl ?_
  refine w_callS X djdk_42_56_12 (wd_84 hw) (wd_85 hw) (wd_35 hw) (wd_86 hw) (by decide) (argsL := [(.ref t), (.int (1 : Int32))]) (S := []) (m_lca_4_1 hw S_zc hzc S_fm hfm At) pd_4 rfl rfl rfl (by decide) (Nat.le_of_ble_eq_true rfl) (by decide) (by decide) (fun T h2 v2 L2 X q2 => ?_)
  obtain ⟨rfl, rfl⟩ := q2
  show Wp p e below _ (T.setTop (mkF m 15 #[.val (.ref a), .val (.int (1 : Int32))] [(.int ((x1 &&& (255 : Int32)).toUInt32.toUInt16.toUInt32.toInt32))]))
  exact w_ret_char X ((x1 &&& (255 : Int32)).toUInt32.toUInt16.toUInt32.toInt32) (own_nar_c _) djdk_42_56_15 ⟨by rw [hr], rfl⟩ (by decide) (by decide)
set_option maxRecDepth 65536 in
set_option maxHeartbeats 40000000 in
theorem m_lca_4_2 {l : Launch} {Z : State} {a0 : Array Value} {n0 : Nat} (hw : ∀ d ∈ tables_1, d.before a0 Z = true) {h0 : Heap} {zc : Int32} {fm : Value} {t : Addr} {x0 x1 x2 x3 : Int32} (S_zc : Sta Z Z.heap "java/lang/String" "COMPACT_STRINGS" "Z" (.int zc)) (hzc : ¬ zc = 0) (S_fm : Sta Z Z.heap "jdk/internal/util/Preconditions" "SIOOBE_FORMATTER" "Ljava/util/function/BiFunction;" fm) (hfm : fm.isRef = true) (At : Ary Z h0 t .byte [(.int x0), (.int x1), (.int x2), (.int x3)]) :
    Does l Z n0 ⟨"java/lang/StringLatin1", "charAt", "([BI)C"⟩ jdk_43_method_2_code 2 (some .char) [] { frames := 2, cells := 0, slots := 0, locals := 27 } #[(.ref t), (.int (2 : Int32))] h0 (fun v h => v = some (.int ((x2 &&& (255 : Int32)).toUInt32.toUInt16.toUInt32.toInt32)) ∧ h0 = h) := by
  refine Does.start (plainFor_of_name pn_5) ?_
  intro p e s m below meth c T X
  replace X : Sd Z n0 0 jdk_43_method_2_code 2 "java/lang/StringLatin1" "charAt" (some .char) h0 p l e { frames := 2, cells := 0, slots := 0, locals := 27 } s m #[(.ref t), (.int (2 : Int32))] below meth c T [] 0 0 := X
  refine Wp.cast (g' := mkF m 0 #[.val (.ref t), .val (.int (2 : Int32))] []) (by first | (simp [entryFrame, mkF, argsToLocals, Value.category, maxLocals]; done) | rfl) ?_
  refine w_iloadN X djdk_43_2_0 rfl ?_
  refine w_aloadN X djdk_43_2_1 rfl (rfl) ?_
  refine w_arrlen X (4 : Int32) djdk_43_2_2 At rfl ?_
  refine w_callS X djdk_43_2_3 (wd_87 hw) (wd_88 hw) (wd_3 hw) (wd_89 hw) (by decide) (argsL := [(.int (2 : Int32)), (.int (4 : Int32))]) (S := []) (m_sci hw S_zc hzc S_fm hfm (by decide) (by decide)) pd_2 rfl rfl rfl (by decide) (Nat.le_of_ble_eq_true rfl) (by decide) (by decide) (fun T h1 v1 L1 X q1 => ?_)
  obtain ⟨rfl, rfl⟩ := q1
  show Wp p e below _ (T.setTop (mkF m 6 #[.val (.ref t), .val (.int (2 : Int32))] []))
  refine w_aloadN X djdk_43_2_6 rfl (rfl) ?_
  refine w_iloadN X djdk_43_2_7 rfl ?_
  refine w_baload X djdk_43_2_8 At (by decide) rfl ?_
  refine w_sipush X (255 : Int32) djdk_43_2_9 rfl ?_
  refine w_iand X djdk_43_2_12 ?_
  refine w_i2c X djdk_43_2_13 ?_
  exact w_ret_char X ((x2 &&& (255 : Int32)).toUInt32.toUInt16.toUInt32.toInt32) (own_nar_c _) djdk_43_2_14 ⟨rfl, rfl⟩ (by decide) (by decide)
set_option maxRecDepth 65536 in
set_option maxHeartbeats 40000000 in
theorem m_ca_4_2 {l : Launch} {Z : State} {a0 : Array Value} {n0 : Nat} (hw : ∀ d ∈ tables_1, d.before a0 Z = true) {h0 : Heap} {zc : Int32} {fm : Value} {a t : Addr} {r : Int32} {x0 x1 x2 x3 : Int32} (S_zc : Sta Z Z.heap "java/lang/String" "COMPACT_STRINGS" "Z" (.int zc)) (hzc : ¬ zc = 0) (S_fm : Sta Z Z.heap "jdk/internal/util/Preconditions" "SIOOBE_FORMATTER" "Ljava/util/function/BiFunction;" fm) (hfm : fm.isRef = true) (Ea : Exa Z h0 a "java/lang/String") (Ca : Fld Z h0 a "java/lang/String" "coder" "B" (.int (0 : Int32))) (Va : Fld Z h0 a "java/lang/String" "value" "[B" (.ref t)) (At : Ary Z h0 t .byte [(.int x0), (.int x1), (.int x2), (.int x3)]) (hr : (x2 &&& (255 : Int32)).toUInt32.toUInt16.toUInt32.toInt32 = r) :
    Does l Z n0 ⟨"java/lang/String", "charAt", "(I)C"⟩ jdk_42_method_56_code 2 (some .char) [] { frames := 3, cells := 0, slots := 0, locals := 40 } #[(.ref a), (.int (2 : Int32))] h0 (fun v h => v = some (.int r) ∧ h0 = h) := by
  refine Does.start (plainFor_of_name pn_3) ?_
  intro p e s m below meth c T X
  replace X : Sd Z n0 0 jdk_42_method_56_code 2 "java/lang/String" "charAt" (some .char) h0 p l e { frames := 3, cells := 0, slots := 0, locals := 40 } s m #[(.ref a), (.int (2 : Int32))] below meth c T [] 0 0 := X
  refine Wp.cast (g' := mkF m 0 #[.val (.ref a), .val (.int (2 : Int32))] []) (by first | (simp [entryFrame, mkF, argsToLocals, Value.category, maxLocals]; done) | rfl) ?_
  refine w_aloadN X djdk_42_56_0 rfl (rfl) ?_
  refine w_callV X djdk_42_56_1 (wd_79 hw) (wd_80 hw) (notFace_of_selects (args := #[]) (mvT X.hZ (wd_82 hw))) (wd_82 hw) (wd_81 hw) (wd_3 hw) (wd_83 hw) (by decide) Ea (argsL := []) (S := []) (m_isl hw S_zc hzc S_fm hfm Ca) pd_3 rfl rfl rfl (by decide) (Nat.le_of_ble_eq_true rfl) (by decide) (by decide) (fun T h1 v1 L1 X q1 => ?_)
  obtain ⟨rfl, rfl⟩ := q1
  show Wp p e below _ (T.setTop (mkF m 4 #[.val (.ref a), .val (.int (2 : Int32))] [(.int (1 : Int32))]))
  refine w_ifeq X djdk_42_56_4 (fun hc => absurd hc (by decide)) (fun _ => ?_)
  refine w_aloadN X djdk_42_56_7 rfl (rfl) ?_
  refine w_getF X djdk_42_56_8 (host := "") (Or.inl (wd_28 hw)) Via.refl Va (fun T X => ?_)
  refine w_iloadN X djdk_42_56_11 rfl ?_
  refine w_callS X djdk_42_56_12 (wd_84 hw) (wd_85 hw) (wd_35 hw) (wd_86 hw) (by decide) (argsL := [(.ref t), (.int (2 : Int32))]) (S := []) (m_lca_4_2 hw S_zc hzc S_fm hfm At) pd_4 rfl rfl rfl (by decide) (Nat.le_of_ble_eq_true rfl) (by decide) (by decide) (fun T h2 v2 L2 X q2 => ?_)
  obtain ⟨rfl, rfl⟩ := q2
  show Wp p e below _ (T.setTop (mkF m 15 #[.val (.ref a), .val (.int (2 : Int32))] [(.int ((x2 &&& (255 : Int32)).toUInt32.toUInt16.toUInt32.toInt32))]))
  exact w_ret_char X ((x2 &&& (255 : Int32)).toUInt32.toUInt16.toUInt32.toInt32) (own_nar_c _) djdk_42_56_15 ⟨by rw [hr], rfl⟩ (by decide) (by decide)
set_option maxRecDepth 65536 in
set_option maxHeartbeats 40000000 in
theorem m_lca_4_3 {l : Launch} {Z : State} {a0 : Array Value} {n0 : Nat} (hw : ∀ d ∈ tables_1, d.before a0 Z = true) {h0 : Heap} {zc : Int32} {fm : Value} {t : Addr} {x0 x1 x2 x3 : Int32} (S_zc : Sta Z Z.heap "java/lang/String" "COMPACT_STRINGS" "Z" (.int zc)) (hzc : ¬ zc = 0) (S_fm : Sta Z Z.heap "jdk/internal/util/Preconditions" "SIOOBE_FORMATTER" "Ljava/util/function/BiFunction;" fm) (hfm : fm.isRef = true) (At : Ary Z h0 t .byte [(.int x0), (.int x1), (.int x2), (.int x3)]) :
    Does l Z n0 ⟨"java/lang/StringLatin1", "charAt", "([BI)C"⟩ jdk_43_method_2_code 2 (some .char) [] { frames := 2, cells := 0, slots := 0, locals := 27 } #[(.ref t), (.int (3 : Int32))] h0 (fun v h => v = some (.int ((x3 &&& (255 : Int32)).toUInt32.toUInt16.toUInt32.toInt32)) ∧ h0 = h) := by
  refine Does.start (plainFor_of_name pn_5) ?_
  intro p e s m below meth c T X
  replace X : Sd Z n0 0 jdk_43_method_2_code 2 "java/lang/StringLatin1" "charAt" (some .char) h0 p l e { frames := 2, cells := 0, slots := 0, locals := 27 } s m #[(.ref t), (.int (3 : Int32))] below meth c T [] 0 0 := X
  refine Wp.cast (g' := mkF m 0 #[.val (.ref t), .val (.int (3 : Int32))] []) (by first | (simp [entryFrame, mkF, argsToLocals, Value.category, maxLocals]; done) | rfl) ?_
  refine w_iloadN X djdk_43_2_0 rfl ?_
  refine w_aloadN X djdk_43_2_1 rfl (rfl) ?_
  refine w_arrlen X (4 : Int32) djdk_43_2_2 At rfl ?_
  refine w_callS X djdk_43_2_3 (wd_87 hw) (wd_88 hw) (wd_3 hw) (wd_89 hw) (by decide) (argsL := [(.int (3 : Int32)), (.int (4 : Int32))]) (S := []) (m_sci hw S_zc hzc S_fm hfm (by decide) (by decide)) pd_2 rfl rfl rfl (by decide) (Nat.le_of_ble_eq_true rfl) (by decide) (by decide) (fun T h1 v1 L1 X q1 => ?_)
  obtain ⟨rfl, rfl⟩ := q1
  show Wp p e below _ (T.setTop (mkF m 6 #[.val (.ref t), .val (.int (3 : Int32))] []))
  refine w_aloadN X djdk_43_2_6 rfl (rfl) ?_
  refine w_iloadN X djdk_43_2_7 rfl ?_
  refine w_baload X djdk_43_2_8 At (by decide) rfl ?_
  refine w_sipush X (255 : Int32) djdk_43_2_9 rfl ?_
  refine w_iand X djdk_43_2_12 ?_
  refine w_i2c X djdk_43_2_13 ?_
  exact w_ret_char X ((x3 &&& (255 : Int32)).toUInt32.toUInt16.toUInt32.toInt32) (own_nar_c _) djdk_43_2_14 ⟨rfl, rfl⟩ (by decide) (by decide)
set_option maxRecDepth 65536 in
set_option maxHeartbeats 40000000 in
theorem m_ca_4_3 {l : Launch} {Z : State} {a0 : Array Value} {n0 : Nat} (hw : ∀ d ∈ tables_1, d.before a0 Z = true) {h0 : Heap} {zc : Int32} {fm : Value} {a t : Addr} {r : Int32} {x0 x1 x2 x3 : Int32} (S_zc : Sta Z Z.heap "java/lang/String" "COMPACT_STRINGS" "Z" (.int zc)) (hzc : ¬ zc = 0) (S_fm : Sta Z Z.heap "jdk/internal/util/Preconditions" "SIOOBE_FORMATTER" "Ljava/util/function/BiFunction;" fm) (hfm : fm.isRef = true) (Ea : Exa Z h0 a "java/lang/String") (Ca : Fld Z h0 a "java/lang/String" "coder" "B" (.int (0 : Int32))) (Va : Fld Z h0 a "java/lang/String" "value" "[B" (.ref t)) (At : Ary Z h0 t .byte [(.int x0), (.int x1), (.int x2), (.int x3)]) (hr : (x3 &&& (255 : Int32)).toUInt32.toUInt16.toUInt32.toInt32 = r) :
    Does l Z n0 ⟨"java/lang/String", "charAt", "(I)C"⟩ jdk_42_method_56_code 2 (some .char) [] { frames := 3, cells := 0, slots := 0, locals := 40 } #[(.ref a), (.int (3 : Int32))] h0 (fun v h => v = some (.int r) ∧ h0 = h) := by
  refine Does.start (plainFor_of_name pn_3) ?_
  intro p e s m below meth c T X
  replace X : Sd Z n0 0 jdk_42_method_56_code 2 "java/lang/String" "charAt" (some .char) h0 p l e { frames := 3, cells := 0, slots := 0, locals := 40 } s m #[(.ref a), (.int (3 : Int32))] below meth c T [] 0 0 := X
  refine Wp.cast (g' := mkF m 0 #[.val (.ref a), .val (.int (3 : Int32))] []) (by first | (simp [entryFrame, mkF, argsToLocals, Value.category, maxLocals]; done) | rfl) ?_
  refine w_aloadN X djdk_42_56_0 rfl (rfl) ?_
  refine w_callV X djdk_42_56_1 (wd_79 hw) (wd_80 hw) (notFace_of_selects (args := #[]) (mvT X.hZ (wd_82 hw))) (wd_82 hw) (wd_81 hw) (wd_3 hw) (wd_83 hw) (by decide) Ea (argsL := []) (S := []) (m_isl hw S_zc hzc S_fm hfm Ca) pd_3 rfl rfl rfl (by decide) (Nat.le_of_ble_eq_true rfl) (by decide) (by decide) (fun T h1 v1 L1 X q1 => ?_)
  obtain ⟨rfl, rfl⟩ := q1
  show Wp p e below _ (T.setTop (mkF m 4 #[.val (.ref a), .val (.int (3 : Int32))] [(.int (1 : Int32))]))
  refine w_ifeq X djdk_42_56_4 (fun hc => absurd hc (by decide)) (fun _ => ?_)
  refine w_aloadN X djdk_42_56_7 rfl (rfl) ?_
  refine w_getF X djdk_42_56_8 (host := "") (Or.inl (wd_28 hw)) Via.refl Va (fun T X => ?_)
  refine w_iloadN X djdk_42_56_11 rfl ?_
  refine w_callS X djdk_42_56_12 (wd_84 hw) (wd_85 hw) (wd_35 hw) (wd_86 hw) (by decide) (argsL := [(.ref t), (.int (3 : Int32))]) (S := []) (m_lca_4_3 hw S_zc hzc S_fm hfm At) pd_4 rfl rfl rfl (by decide) (Nat.le_of_ble_eq_true rfl) (by decide) (by decide) (fun T h2 v2 L2 X q2 => ?_)
  obtain ⟨rfl, rfl⟩ := q2
  show Wp p e below _ (T.setTop (mkF m 15 #[.val (.ref a), .val (.int (3 : Int32))] [(.int ((x3 &&& (255 : Int32)).toUInt32.toUInt16.toUInt32.toInt32))]))
  exact w_ret_char X ((x3 &&& (255 : Int32)).toUInt32.toUInt16.toUInt32.toInt32) (own_nar_c _) djdk_42_56_15 ⟨by rw [hr], rfl⟩ (by decide) (by decide)
set_option maxRecDepth 65536 in
set_option maxHeartbeats 40000000 in
theorem m_sn {l : Launch} {Z : State} {a0 : Array Value} {n0 : Nat} (hw : ∀ d ∈ tables_1, d.before a0 Z = true) {h0 : Heap} {zc : Int32} {fm : Value} {a x t : Addr} (S_zc : Sta Z Z.heap "java/lang/String" "COMPACT_STRINGS" "Z" (.int zc)) (hzc : ¬ zc = 0) (S_fm : Sta Z Z.heap "jdk/internal/util/Preconditions" "SIOOBE_FORMATTER" "Ljava/util/function/BiFunction;" fm) (hfm : fm.isRef = true) (ga : n0 ≤ a) (Ea : Exa Z h0 a "com/example/bounded_lock/boundedlock/engine/SemaphoreName") (Fa : Fld Z h0 a "com/example/bounded_lock/boundedlock/engine/SemaphoreName" "value" "Ljava/lang/String;" .null) (Ex : Exa Z h0 x "java/lang/String") (Cx : Fld Z h0 x "java/lang/String" "coder" "B" (.int (0 : Int32))) (Vx : Fld Z h0 x "java/lang/String" "value" "[B" (.ref t)) (At : Ary Z h0 t .byte [(.int (106 : Int32)), (.int (111 : Int32)), (.int (98 : Int32)), (.int (115 : Int32))]) :
    DoesW l Z n0 ⟨"com/example/bounded_lock/boundedlock/engine/SemaphoreName", "<init>", "(Ljava/lang/String;)V"⟩ prog_12_method_1_code 3 none [] { frames := 4, cells := 2, slots := 24, locals := 53 } #[(.ref a), (.ref x)] h0 (fun v h => v = none ∧ Keep h0 h [a]) := by
  refine DoesW.start (plainFor_of_name pn_2) ?_
  intro p e s m below meth c T X Y hs0
  replace X : Sd Z n0 0 prog_12_method_1_code 3 "com/example/bounded_lock/boundedlock/engine/SemaphoreName" "<init>" none h0 p l e { frames := 4, cells := 2, slots := 24, locals := 53 } (s.setVm s.vm) m #[(.ref a), (.ref x)] below meth c T [] 0 0 := X
  refine Wp.cast (g' := mkF m 0 #[.val (.ref a), .val (.ref x), .unset] []) (by first | (simp [entryFrame, mkF, argsToLocals, Value.category, maxLocals]; done) | rfl) ?_
  refine w_aloadN X dprog_12_1_0 rfl (rfl) ?_
  refine w_callI X dprog_12_1_1 rfl (wd_53 hw) (wd_54 hw) (wd_56 hw) (wd_57 hw) (by decide) (argsL := []) (S := []) (m_rec hw (a := a)) pd_5 rfl rfl rfl (by decide) (Nat.le_of_ble_eq_true rfl) (by decide) (by decide) (fun T h1 v1 L1 X q1 => ?_)
  obtain ⟨rfl, rfl⟩ := q1
  show Wp p e below _ (T.setTop (mkF m 4 #[.val (.ref a), .val (.ref x), .unset] []))
  refine w_aloadN X dprog_12_1_4 rfl (rfl) ?_
  refine v_ldcS X Y dprog_12_1_5 (wd_59 hw) (own_wS hw) 20 (by decide) (by decide) (by decide) (by decide) (fun T h2 u kk a2 X Y E2 => ?_)
  have K1 : Keep h0 h2 [a] := (Keep.refl h0 [a]).ext E2
  refine w_callS X dprog_12_1_7 (wd_60 hw) (wd_61 hw) (wd_62 hw) (wd_63 hw) (by decide) (argsL := [(.ref x), (.ref a2)]) (S := []) (m_rnn hw (a := x) (b := a2)) pd_6 rfl rfl rfl (by decide) (Nat.le_of_ble_eq_true rfl) (by decide) (by decide) (fun T h3 v3 L3 X q3 => ?_)
  obtain ⟨rfl, rfl⟩ := q3
  show Wp p e below _ (T.setTop (mkF m 10 #[.val (.ref a), .val (.ref x), .unset] [(.ref x)]))
  refine w_pop X dprog_12_1_10 rfl ?_
  refine w_iconst X (0 : Int32) dprog_12_1_11 rfl ?_
  refine w_istoreN X #[.val (.ref a), .val (.ref x), .val (.int (0 : Int32))] dprog_12_1_12 rfl ?_
  refine w_iloadN X dprog_12_1_13 rfl ?_
  refine w_aloadN X dprog_12_1_14 rfl (rfl) ?_
  have f2 := (Ex.ext E2)
  have f3 := (Cx.ext E2)
  have f4 := (Vx.ext E2)
  have f5 := (At.ext E2)
  refine w_callV X dprog_12_1_15 (wd_64 hw) (wd_65 hw) (notFace_of_selects (args := #[]) (mvT X.hZ (wd_67 hw))) (wd_67 hw) (wd_66 hw) (wd_3 hw) (wd_68 hw) (by decide) f2 (argsL := []) (S := [(.int (0 : Int32))]) (m_len_4 hw S_zc hzc S_fm hfm f2 f3 f4 f5) pd_7 rfl rfl rfl (by decide) (Nat.le_of_ble_eq_true rfl) (by decide) (by decide) (fun T h4 v4 L4 X q4 => ?_)
  obtain ⟨rfl, rfl⟩ := q4
  show Wp p e below _ (T.setTop (mkF m 18 #[.val (.ref a), .val (.ref x), .val (.int (0 : Int32))] [(.int (4 : Int32)), (.int (0 : Int32))]))
  refine w_icmpge X dprog_12_1_18 (fun hc => absurd (by decide) hc) (fun _ => ?_)
  refine w_aloadN X dprog_12_1_21 rfl (rfl) ?_
  refine w_iloadN X dprog_12_1_22 rfl ?_
  refine w_callV X dprog_12_1_23 (wd_74 hw) (wd_75 hw) (notFace_of_selects (args := #[]) (mvT X.hZ (wd_77 hw))) (wd_77 hw) (wd_76 hw) (wd_3 hw) (wd_78 hw) (by decide) f2 (argsL := [(.int (0 : Int32))]) (S := []) (m_ca_4_0 hw (r := (106 : Int32)) S_zc hzc S_fm hfm f2 f3 f4 f5 (by decide)) pd_8 rfl rfl rfl (by decide) (Nat.le_of_ble_eq_true rfl) (by decide) (by decide) (fun T h5 v5 L5 X q5 => ?_)
  obtain ⟨rfl, rfl⟩ := q5
  show Wp p e below _ (T.setTop (mkF m 26 #[.val (.ref a), .val (.ref x), .val (.int (0 : Int32))] [(.int (106 : Int32))]))
  refine w_callS X dprog_12_1_26 (wd_95 hw) (wd_96 hw) (wd_46 hw) (wd_97 hw) (by decide) (argsL := [(.int (106 : Int32))]) (S := []) (m_inc_106 hw) pd_9 rfl rfl rfl (by decide) (Nat.le_of_ble_eq_true rfl) (by decide) (by decide) (fun T h6 v6 L6 X q6 => ?_)
  obtain ⟨rfl, rfl⟩ := q6
  show Wp p e below _ (T.setTop (mkF m 29 #[.val (.ref a), .val (.ref x), .val (.int (0 : Int32))] [(.int (1 : Int32))]))
  refine w_ifne X dprog_12_1_29 (fun _ => ?_) (fun hc => absurd hc (by decide))
  refine w_iinc X (1 : Int32) #[.val (.ref a), .val (.ref x), .val (.int (1 : Int32))] dprog_12_1_72 rfl rfl rfl ?_
  refine w_goto X dprog_12_1_75 ?_
  refine w_iloadN X dprog_12_1_13 rfl ?_
  refine w_aloadN X dprog_12_1_14 rfl (rfl) ?_
  refine w_callV X dprog_12_1_15 (wd_64 hw) (wd_65 hw) (notFace_of_selects (args := #[]) (mvT X.hZ (wd_67 hw))) (wd_67 hw) (wd_66 hw) (wd_3 hw) (wd_68 hw) (by decide) f2 (argsL := []) (S := [(.int (1 : Int32))]) (m_len_4 hw S_zc hzc S_fm hfm f2 f3 f4 f5) pd_7 rfl rfl rfl (by decide) (Nat.le_of_ble_eq_true rfl) (by decide) (by decide) (fun T h7 v7 L7 X q7 => ?_)
  obtain ⟨rfl, rfl⟩ := q7
  show Wp p e below _ (T.setTop (mkF m 18 #[.val (.ref a), .val (.ref x), .val (.int (1 : Int32))] [(.int (4 : Int32)), (.int (1 : Int32))]))
  refine w_icmpge X dprog_12_1_18 (fun hc => absurd (by decide) hc) (fun _ => ?_)
  refine w_aloadN X dprog_12_1_21 rfl (rfl) ?_
  refine w_iloadN X dprog_12_1_22 rfl ?_
  refine w_callV X dprog_12_1_23 (wd_74 hw) (wd_75 hw) (notFace_of_selects (args := #[]) (mvT X.hZ (wd_77 hw))) (wd_77 hw) (wd_76 hw) (wd_3 hw) (wd_78 hw) (by decide) f2 (argsL := [(.int (1 : Int32))]) (S := []) (m_ca_4_1 hw (r := (111 : Int32)) S_zc hzc S_fm hfm f2 f3 f4 f5 (by decide)) pd_8 rfl rfl rfl (by decide) (Nat.le_of_ble_eq_true rfl) (by decide) (by decide) (fun T h8 v8 L8 X q8 => ?_)
  obtain ⟨rfl, rfl⟩ := q8
  show Wp p e below _ (T.setTop (mkF m 26 #[.val (.ref a), .val (.ref x), .val (.int (1 : Int32))] [(.int (111 : Int32))]))
  refine w_callS X dprog_12_1_26 (wd_95 hw) (wd_96 hw) (wd_46 hw) (wd_97 hw) (by decide) (argsL := [(.int (111 : Int32))]) (S := []) (m_inc_111 hw) pd_9 rfl rfl rfl (by decide) (Nat.le_of_ble_eq_true rfl) (by decide) (by decide) (fun T h9 v9 L9 X q9 => ?_)
  obtain ⟨rfl, rfl⟩ := q9
  show Wp p e below _ (T.setTop (mkF m 29 #[.val (.ref a), .val (.ref x), .val (.int (1 : Int32))] [(.int (1 : Int32))]))
  refine w_ifne X dprog_12_1_29 (fun _ => ?_) (fun hc => absurd hc (by decide))
  refine w_iinc X (1 : Int32) #[.val (.ref a), .val (.ref x), .val (.int (2 : Int32))] dprog_12_1_72 rfl rfl rfl ?_
  refine w_goto X dprog_12_1_75 ?_
  refine w_iloadN X dprog_12_1_13 rfl ?_
  refine w_aloadN X dprog_12_1_14 rfl (rfl) ?_
  refine w_callV X dprog_12_1_15 (wd_64 hw) (wd_65 hw) (notFace_of_selects (args := #[]) (mvT X.hZ (wd_67 hw))) (wd_67 hw) (wd_66 hw) (wd_3 hw) (wd_68 hw) (by decide) f2 (argsL := []) (S := [(.int (2 : Int32))]) (m_len_4 hw S_zc hzc S_fm hfm f2 f3 f4 f5) pd_7 rfl rfl rfl (by decide) (Nat.le_of_ble_eq_true rfl) (by decide) (by decide) (fun T h10 v10 L10 X q10 => ?_)
  obtain ⟨rfl, rfl⟩ := q10
  show Wp p e below _ (T.setTop (mkF m 18 #[.val (.ref a), .val (.ref x), .val (.int (2 : Int32))] [(.int (4 : Int32)), (.int (2 : Int32))]))
  refine w_icmpge X dprog_12_1_18 (fun hc => absurd (by decide) hc) (fun _ => ?_)
  refine w_aloadN X dprog_12_1_21 rfl (rfl) ?_
  refine w_iloadN X dprog_12_1_22 rfl ?_
  refine w_callV X dprog_12_1_23 (wd_74 hw) (wd_75 hw) (notFace_of_selects (args := #[]) (mvT X.hZ (wd_77 hw))) (wd_77 hw) (wd_76 hw) (wd_3 hw) (wd_78 hw) (by decide) f2 (argsL := [(.int (2 : Int32))]) (S := []) (m_ca_4_2 hw (r := (98 : Int32)) S_zc hzc S_fm hfm f2 f3 f4 f5 (by decide)) pd_8 rfl rfl rfl (by decide) (Nat.le_of_ble_eq_true rfl) (by decide) (by decide) (fun T h11 v11 L11 X q11 => ?_)
  obtain ⟨rfl, rfl⟩ := q11
  show Wp p e below _ (T.setTop (mkF m 26 #[.val (.ref a), .val (.ref x), .val (.int (2 : Int32))] [(.int (98 : Int32))]))
  refine w_callS X dprog_12_1_26 (wd_95 hw) (wd_96 hw) (wd_46 hw) (wd_97 hw) (by decide) (argsL := [(.int (98 : Int32))]) (S := []) (m_inc_98 hw) pd_9 rfl rfl rfl (by decide) (Nat.le_of_ble_eq_true rfl) (by decide) (by decide) (fun T h12 v12 L12 X q12 => ?_)
  obtain ⟨rfl, rfl⟩ := q12
  show Wp p e below _ (T.setTop (mkF m 29 #[.val (.ref a), .val (.ref x), .val (.int (2 : Int32))] [(.int (1 : Int32))]))
  refine w_ifne X dprog_12_1_29 (fun _ => ?_) (fun hc => absurd hc (by decide))
  refine w_iinc X (1 : Int32) #[.val (.ref a), .val (.ref x), .val (.int (3 : Int32))] dprog_12_1_72 rfl rfl rfl ?_
  refine w_goto X dprog_12_1_75 ?_
  refine w_iloadN X dprog_12_1_13 rfl ?_
  refine w_aloadN X dprog_12_1_14 rfl (rfl) ?_
  refine w_callV X dprog_12_1_15 (wd_64 hw) (wd_65 hw) (notFace_of_selects (args := #[]) (mvT X.hZ (wd_67 hw))) (wd_67 hw) (wd_66 hw) (wd_3 hw) (wd_68 hw) (by decide) f2 (argsL := []) (S := [(.int (3 : Int32))]) (m_len_4 hw S_zc hzc S_fm hfm f2 f3 f4 f5) pd_7 rfl rfl rfl (by decide) (Nat.le_of_ble_eq_true rfl) (by decide) (by decide) (fun T h13 v13 L13 X q13 => ?_)
  obtain ⟨rfl, rfl⟩ := q13
  show Wp p e below _ (T.setTop (mkF m 18 #[.val (.ref a), .val (.ref x), .val (.int (3 : Int32))] [(.int (4 : Int32)), (.int (3 : Int32))]))
  refine w_icmpge X dprog_12_1_18 (fun hc => absurd (by decide) hc) (fun _ => ?_)
  refine w_aloadN X dprog_12_1_21 rfl (rfl) ?_
  refine w_iloadN X dprog_12_1_22 rfl ?_
  refine w_callV X dprog_12_1_23 (wd_74 hw) (wd_75 hw) (notFace_of_selects (args := #[]) (mvT X.hZ (wd_77 hw))) (wd_77 hw) (wd_76 hw) (wd_3 hw) (wd_78 hw) (by decide) f2 (argsL := [(.int (3 : Int32))]) (S := []) (m_ca_4_3 hw (r := (115 : Int32)) S_zc hzc S_fm hfm f2 f3 f4 f5 (by decide)) pd_8 rfl rfl rfl (by decide) (Nat.le_of_ble_eq_true rfl) (by decide) (by decide) (fun T h14 v14 L14 X q14 => ?_)
  obtain ⟨rfl, rfl⟩ := q14
  show Wp p e below _ (T.setTop (mkF m 26 #[.val (.ref a), .val (.ref x), .val (.int (3 : Int32))] [(.int (115 : Int32))]))
  refine w_callS X dprog_12_1_26 (wd_95 hw) (wd_96 hw) (wd_46 hw) (wd_97 hw) (by decide) (argsL := [(.int (115 : Int32))]) (S := []) (m_inc_115 hw) pd_9 rfl rfl rfl (by decide) (Nat.le_of_ble_eq_true rfl) (by decide) (by decide) (fun T h15 v15 L15 X q15 => ?_)
  obtain ⟨rfl, rfl⟩ := q15
  show Wp p e below _ (T.setTop (mkF m 29 #[.val (.ref a), .val (.ref x), .val (.int (3 : Int32))] [(.int (1 : Int32))]))
  refine w_ifne X dprog_12_1_29 (fun _ => ?_) (fun hc => absurd hc (by decide))
  refine w_iinc X (1 : Int32) #[.val (.ref a), .val (.ref x), .val (.int (4 : Int32))] dprog_12_1_72 rfl rfl rfl ?_
  refine w_goto X dprog_12_1_75 ?_
  refine w_iloadN X dprog_12_1_13 rfl ?_
  refine w_aloadN X dprog_12_1_14 rfl (rfl) ?_
  refine w_callV X dprog_12_1_15 (wd_64 hw) (wd_65 hw) (notFace_of_selects (args := #[]) (mvT X.hZ (wd_67 hw))) (wd_67 hw) (wd_66 hw) (wd_3 hw) (wd_68 hw) (by decide) f2 (argsL := []) (S := [(.int (4 : Int32))]) (m_len_4 hw S_zc hzc S_fm hfm f2 f3 f4 f5) pd_7 rfl rfl rfl (by decide) (Nat.le_of_ble_eq_true rfl) (by decide) (by decide) (fun T h16 v16 L16 X q16 => ?_)
  obtain ⟨rfl, rfl⟩ := q16
  show Wp p e below _ (T.setTop (mkF m 18 #[.val (.ref a), .val (.ref x), .val (.int (4 : Int32))] [(.int (4 : Int32)), (.int (4 : Int32))]))
  refine w_icmpge X dprog_12_1_18 (fun _ => ?_) (fun hc => absurd hc Int32.lt_irrefl)
  refine w_aloadN X dprog_12_1_78 rfl (rfl) ?_
  refine w_callV X dprog_12_1_79 (wd_98 hw) (wd_99 hw) (notFace_of_selects (args := #[]) (mvT X.hZ (wd_101 hw))) (wd_101 hw) (wd_100 hw) (wd_3 hw) (wd_102 hw) (by decide) f2 (argsL := []) (S := []) (m_emp_4 hw f2 f3 f4 f5) pd_3 rfl rfl rfl (by decide) (Nat.le_of_ble_eq_true rfl) (by decide) (by decide) (fun T h17 v17 L17 X q17 => ?_)
  obtain ⟨rfl, rfl⟩ := q17
  show Wp p e below _ (T.setTop (mkF m 82 #[.val (.ref a), .val (.ref x), .val (.int (4 : Int32))] [(.int (0 : Int32))]))
  refine w_ifne X dprog_12_1_82 (fun hc => absurd rfl hc) (fun _ => ?_)
  refine w_aloadN X dprog_12_1_85 rfl (rfl) ?_
  refine w_callV X dprog_12_1_86 (wd_64 hw) (wd_65 hw) (notFace_of_selects (args := #[]) (mvT X.hZ (wd_67 hw))) (wd_67 hw) (wd_66 hw) (wd_3 hw) (wd_68 hw) (by decide) f2 (argsL := []) (S := []) (m_len_4 hw S_zc hzc S_fm hfm f2 f3 f4 f5) pd_7 rfl rfl rfl (by decide) (Nat.le_of_ble_eq_true rfl) (by decide) (by decide) (fun T h18 v18 L18 X q18 => ?_)
  obtain ⟨rfl, rfl⟩ := q18
  show Wp p e below _ (T.setTop (mkF m 89 #[.val (.ref a), .val (.ref x), .val (.int (4 : Int32))] [(.int (4 : Int32))]))
  refine w_bipush X (64 : Int32) dprog_12_1_89 rfl ?_
  refine w_icmple X dprog_12_1_91 (fun _ => ?_) (fun hc => absurd hc (by decide))
  refine w_aloadN X dprog_12_1_111 rfl (rfl) ?_
  refine w_aloadN X dprog_12_1_112 rfl (rfl) ?_
  have f6 := (Ea.ext E2)
  have f7 := (Fa.ext E2)
  refine w_putF X dprog_12_1_113 (host := "") (Or.inl (wd_103 hw)) Via.refl f7 f6 (Or.inr ⟨(wd_104 hw), rfl, rfl⟩) (wd_45 hw) (ty := (.object "java/lang/String")) (by decide) rfl rfl ga (fun T h19 X W19 => ?_)
  have f8 := f7.same W19
  have K9 : Keep h0 h19 [a] := K1.wr W19 (Or.inl (List.mem_of_getElem? (i := 0) rfl))
  exact v_retV X Y dprog_12_1_116 ⟨rfl, K9⟩ (by decide) (by decide)
set_option maxRecDepth 65536 in
set_option maxHeartbeats 40000000 in
theorem m_le {l : Launch} {Z : State} {a0 : Array Value} {n0 : Nat} (hw : ∀ d ∈ tables_1, d.before a0 Z = true) {h0 : Heap} {a q1 q2 q5 : Addr} {q3 : Int32} {q4 q6 : Int64} (ga : n0 ≤ a) (Ea : Exa Z h0 a "com/example/bounded_lock/boundedlock/engine/Lease") (F_id : Fld Z h0 a "com/example/bounded_lock/boundedlock/engine/Lease" "id" "Ljava/lang/String;" .null) (F_name : Fld Z h0 a "com/example/bounded_lock/boundedlock/engine/Lease" "name" "Lcom/example/bounded_lock/boundedlock/engine/SemaphoreName;" .null) (F_permits : Fld Z h0 a "com/example/bounded_lock/boundedlock/engine/Lease" "permits" "I" (.int (0 : Int32))) (F_fence : Fld Z h0 a "com/example/bounded_lock/boundedlock/engine/Lease" "fence" "J" (.long (0 : Int64))) (F_owner : Fld Z h0 a "com/example/bounded_lock/boundedlock/engine/Lease" "owner" "Ljava/lang/String;" .null) (F_ttlMs : Fld Z h0 a "com/example/bounded_lock/boundedlock/engine/Lease" "ttlMs" "J" (.long (0 : Int64))) :
    DoesW l Z n0 ⟨"com/example/bounded_lock/boundedlock/engine/Lease", "<init>", "(Ljava/lang/String;Lcom/example/bounded_lock/boundedlock/engine/SemaphoreName;IJLjava/lang/String;J)V"⟩ prog_9_method_1_code 9 none [] { frames := 2, cells := 6, slots := 56, locals := 24 } #[(.ref a), (.ref q1), (.ref q2), (.int q3), (.long q4), (.ref q5), (.long q6)] h0 (fun v h => v = none ∧ Exa Z h a "com/example/bounded_lock/boundedlock/engine/Lease" ∧ Fld Z h a "com/example/bounded_lock/boundedlock/engine/Lease" "id" "Ljava/lang/String;" (.ref q1) ∧ Fld Z h a "com/example/bounded_lock/boundedlock/engine/Lease" "name" "Lcom/example/bounded_lock/boundedlock/engine/SemaphoreName;" (.ref q2) ∧ Fld Z h a "com/example/bounded_lock/boundedlock/engine/Lease" "permits" "I" (.int q3) ∧ Fld Z h a "com/example/bounded_lock/boundedlock/engine/Lease" "fence" "J" (.long q4) ∧ Fld Z h a "com/example/bounded_lock/boundedlock/engine/Lease" "owner" "Ljava/lang/String;" (.ref q5) ∧ Fld Z h a "com/example/bounded_lock/boundedlock/engine/Lease" "ttlMs" "J" (.long q6) ∧ Keep h0 h [a]) := by
  refine DoesW.start (plainFor_of_name pn_6) ?_
  intro p e s m below meth c T X Y hs0
  replace X : Sd Z n0 0 prog_9_method_1_code 9 "com/example/bounded_lock/boundedlock/engine/Lease" "<init>" none h0 p l e { frames := 2, cells := 6, slots := 56, locals := 24 } (s.setVm s.vm) m #[(.ref a), (.ref q1), (.ref q2), (.int q3), (.long q4), (.ref q5), (.long q6)] below meth c T [] 0 0 := X
  refine Wp.cast (g' := mkF m 0 #[.val (.ref a), .val (.ref q1), .val (.ref q2), .val (.int q3), .val (.long q4), .second, .val (.ref q5), .val (.long q6), .second] []) (by first | (simp [entryFrame, mkF, argsToLocals, Value.category, maxLocals]; done) | rfl) ?_
  refine w_aloadN X dprog_9_1_0 rfl (rfl) ?_
  refine w_callI X dprog_9_1_1 rfl (wd_111 hw) (wd_54 hw) (wd_56 hw) (wd_57 hw) (by decide) (argsL := []) (S := []) (m_rec hw (a := a)) pd_5 rfl rfl rfl (by decide) (Nat.le_of_ble_eq_true rfl) (by decide) (by decide) (fun T h1 v1 L1 X q1 => ?_)
  obtain ⟨rfl, rfl⟩ := q1
  show Wp p e below _ (T.setTop (mkF m 4 #[.val (.ref a), .val (.ref q1), .val (.ref q2), .val (.int q3), .val (.long q4), .second, .val (.ref q5), .val (.long q6), .second] []))
  refine w_aloadN X dprog_9_1_4 rfl (rfl) ?_
  refine v_ldcS X Y dprog_9_1_5 (wd_112 hw) (own_wS hw) 8 (by decide) (by decide) (by decide) (by decide) (fun T h2 u kk a2 X Y E2 => ?_)
  have K1 : Keep h0 h2 [a] := (Keep.refl h0 [a]).ext E2
  refine w_callS X dprog_9_1_7 (wd_113 hw) (wd_61 hw) (wd_62 hw) (wd_63 hw) (by decide) (argsL := [(.ref q1), (.ref a2)]) (S := []) (m_rnn hw (a := q1) (b := a2)) pd_6 rfl rfl rfl (by decide) (Nat.le_of_ble_eq_true rfl) (by decide) (by decide) (fun T h3 v3 L3 X q3 => ?_)
  obtain ⟨rfl, rfl⟩ := q3
  show Wp p e below _ (T.setTop (mkF m 10 #[.val (.ref a), .val (.ref q1), .val (.ref q2), .val (.int q3), .val (.long q4), .second, .val (.ref q5), .val (.long q6), .second] [(.ref q1)]))
  refine w_pop X dprog_9_1_10 rfl ?_
  refine w_aloadN X dprog_9_1_11 rfl (rfl) ?_
  refine v_ldcS X Y dprog_9_1_12 (wd_114 hw) (own_wS hw) 16 (by decide) (by decide) (by decide) (by decide) (fun T h4 u kk a4 X Y E4 => ?_)
  have K2 : Keep h0 h4 [a] := K1.ext E4
  refine w_callS X dprog_9_1_14 (wd_113 hw) (wd_61 hw) (wd_62 hw) (wd_63 hw) (by decide) (argsL := [(.ref q2), (.ref a4)]) (S := []) (m_rnn hw (a := q2) (b := a4)) pd_6 rfl rfl rfl (by decide) (Nat.le_of_ble_eq_true rfl) (by decide) (by decide) (fun T h5 v5 L5 X q5 => ?_)
  obtain ⟨rfl, rfl⟩ := q5
  show Wp p e below _ (T.setTop (mkF m 17 #[.val (.ref a), .val (.ref q1), .val (.ref q2), .val (.int q3), .val (.long q4), .second, .val (.ref q5), .val (.long q6), .second] [(.ref q2)]))
  refine w_pop X dprog_9_1_17 rfl ?_
  refine w_aload X dprog_9_1_18 rfl (rfl) ?_
  refine v_ldcS X Y dprog_9_1_20 (wd_115 hw) (own_wS hw) 20 (by decide) (by decide) (by decide) (by decide) (fun T h6 u kk a6 X Y E6 => ?_)
  have K3 : Keep h0 h6 [a] := K2.ext E6
  refine w_callS X dprog_9_1_22 (wd_113 hw) (wd_61 hw) (wd_62 hw) (wd_63 hw) (by decide) (argsL := [(.ref q5), (.ref a6)]) (S := []) (m_rnn hw (a := q5) (b := a6)) pd_6 rfl rfl rfl (by decide) (Nat.le_of_ble_eq_true rfl) (by decide) (by decide) (fun T h7 v7 L7 X q7 => ?_)
  obtain ⟨rfl, rfl⟩ := q7
  show Wp p e below _ (T.setTop (mkF m 25 #[.val (.ref a), .val (.ref q1), .val (.ref q2), .val (.int q3), .val (.long q4), .second, .val (.ref q5), .val (.long q6), .second] [(.ref q5)]))
  refine w_pop X dprog_9_1_25 rfl ?_
  refine w_aloadN X dprog_9_1_26 rfl (rfl) ?_
  refine w_aloadN X dprog_9_1_27 rfl (rfl) ?_
  have f4 := (((Ea.ext E2).ext E4).ext E6)
  have f5 := (((F_id.ext E2).ext E4).ext E6)
  refine w_putF X dprog_9_1_28 (host := "") (Or.inl (wd_116 hw)) Via.refl f5 f4 (Or.inr ⟨(wd_117 hw), rfl, rfl⟩) (wd_106 hw) (ty := (.object "java/lang/String")) (by decide) rfl rfl ga (fun T h8 X W8 => ?_)
  have f6 := f5.same W8
  have K7 : Keep h0 h8 [a] := K3.wr W8 (Or.inl (List.mem_of_getElem? (i := 0) rfl))
  refine w_aloadN X dprog_9_1_31 rfl (rfl) ?_
  refine w_aloadN X dprog_9_1_32 rfl (rfl) ?_
  have f8 := (f4.wr W8)
  have f9 := ((((F_name.ext E2).ext E4).ext E6).other W8 (Or.inr (slot_ne (Or.inr (wd_119 hw)) (Or.inr (wd_117 hw)) (by decide) (t := (.object "com/example/bounded_lock/boundedlock/engine/SemaphoreName")) (t' := (.object "java/lang/String")) (by decide) (by decide))))
  refine w_putF X dprog_9_1_33 (host := "") (Or.inl (wd_118 hw)) Via.refl f9 f8 (Or.inr ⟨(wd_119 hw), rfl, rfl⟩) (wd_106 hw) (ty := (.object "com/example/bounded_lock/boundedlock/engine/SemaphoreName")) (by decide) rfl rfl ga (fun T h9 X W9 => ?_)
  have f10 := f9.same W9
  have K11 : Keep h0 h9 [a] := K7.wr W9 (Or.inl (List.mem_of_getElem? (i := 0) rfl))
  refine w_aloadN X dprog_9_1_36 rfl (rfl) ?_
  refine w_iloadN X dprog_9_1_37 rfl ?_
  have f12 := (f8.wr W9)
  have f13 := (((((F_permits.ext E2).ext E4).ext E6).other W8 (Or.inr (slot_ne (Or.inr (wd_121 hw)) (Or.inr (wd_117 hw)) (by decide) (t := .int) (t' := (.object "java/lang/String")) (by decide) (by decide)))).other W9 (Or.inr (slot_ne (Or.inr (wd_121 hw)) (Or.inr (wd_119 hw)) (by decide) (t := .int) (t' := (.object "com/example/bounded_lock/boundedlock/engine/SemaphoreName")) (by decide) (by decide))))
  refine w_putF X dprog_9_1_38 (host := "") (Or.inl (wd_120 hw)) Via.refl f13 f12 (Or.inr ⟨(wd_121 hw), rfl, rfl⟩) (wd_106 hw) (ty := .int) (by decide) rfl rfl ga (fun T h10 X W10 => ?_)
  have f14 := f13.same W10
  have K15 : Keep h0 h10 [a] := K11.wr W10 (Or.inl (List.mem_of_getElem? (i := 0) rfl))
  refine w_aloadN X dprog_9_1_41 rfl (rfl) ?_
  refine w_lload X dprog_9_1_42 rfl ?_
  have f16 := (f12.wr W10)
  have f17 := ((((((F_fence.ext E2).ext E4).ext E6).other W8 (Or.inr (slot_ne (Or.inr (wd_123 hw)) (Or.inr (wd_117 hw)) (by decide) (t := .long) (t' := (.object "java/lang/String")) (by decide) (by decide)))).other W9 (Or.inr (slot_ne (Or.inr (wd_123 hw)) (Or.inr (wd_119 hw)) (by decide) (t := .long) (t' := (.object "com/example/bounded_lock/boundedlock/engine/SemaphoreName")) (by decide) (by decide)))).other W10 (Or.inr (slot_ne (Or.inr (wd_123 hw)) (Or.inr (wd_121 hw)) (by decide) (t := .long) (t' := .int) (by decide) (by decide))))
  refine w_putF X dprog_9_1_44 (host := "") (Or.inl (wd_122 hw)) Via.refl f17 f16 (Or.inr ⟨(wd_123 hw), rfl, rfl⟩) (wd_106 hw) (ty := .long) (by decide) rfl rfl ga (fun T h11 X W11 => ?_)
  have f18 := f17.same W11
  have K19 : Keep h0 h11 [a] := K15.wr W11 (Or.inl (List.mem_of_getElem? (i := 0) rfl))
  refine w_aloadN X dprog_9_1_47 rfl (rfl) ?_
  refine w_aload X dprog_9_1_48 rfl (rfl) ?_
  have f20 := (f16.wr W11)
  have f21 := (((((((F_owner.ext E2).ext E4).ext E6).other W8 (Or.inr (slot_ne (Or.inr (wd_125 hw)) (Or.inr (wd_117 hw)) (by decide) (t := (.object "java/lang/String")) (t' := (.object "java/lang/String")) (by decide) (by decide)))).other W9 (Or.inr (slot_ne (Or.inr (wd_125 hw)) (Or.inr (wd_119 hw)) (by decide) (t := (.object "java/lang/String")) (t' := (.object "com/example/bounded_lock/boundedlock/engine/SemaphoreName")) (by decide) (by decide)))).other W10 (Or.inr (slot_ne (Or.inr (wd_125 hw)) (Or.inr (wd_121 hw)) (by decide) (t := (.object "java/lang/String")) (t' := .int) (by decide) (by decide)))).other W11 (Or.inr (slot_ne (Or.inr (wd_125 hw)) (Or.inr (wd_123 hw)) (by decide) (t := (.object "java/lang/String")) (t' := .long) (by decide) (by decide))))
  refine w_putF X dprog_9_1_50 (host := "") (Or.inl (wd_124 hw)) Via.refl f21 f20 (Or.inr ⟨(wd_125 hw), rfl, rfl⟩) (wd_106 hw) (ty := (.object "java/lang/String")) (by decide) rfl rfl ga (fun T h12 X W12 => ?_)
  have f22 := f21.same W12
  have K23 : Keep h0 h12 [a] := K19.wr W12 (Or.inl (List.mem_of_getElem? (i := 0) rfl))
  refine w_aloadN X dprog_9_1_53 rfl (rfl) ?_
  refine w_lload X dprog_9_1_54 rfl ?_
  have f24 := (f20.wr W12)
  have f25 := ((((((((F_ttlMs.ext E2).ext E4).ext E6).other W8 (Or.inr (slot_ne (Or.inr (wd_127 hw)) (Or.inr (wd_117 hw)) (by decide) (t := .long) (t' := (.object "java/lang/String")) (by decide) (by decide)))).other W9 (Or.inr (slot_ne (Or.inr (wd_127 hw)) (Or.inr (wd_119 hw)) (by decide) (t := .long) (t' := (.object "com/example/bounded_lock/boundedlock/engine/SemaphoreName")) (by decide) (by decide)))).other W10 (Or.inr (slot_ne (Or.inr (wd_127 hw)) (Or.inr (wd_121 hw)) (by decide) (t := .long) (t' := .int) (by decide) (by decide)))).other W11 (Or.inr (slot_ne (Or.inr (wd_127 hw)) (Or.inr (wd_123 hw)) (by decide) (t := .long) (t' := .long) (by decide) (by decide)))).other W12 (Or.inr (slot_ne (Or.inr (wd_127 hw)) (Or.inr (wd_125 hw)) (by decide) (t := .long) (t' := (.object "java/lang/String")) (by decide) (by decide))))
  refine w_putF X dprog_9_1_56 (host := "") (Or.inl (wd_126 hw)) Via.refl f25 f24 (Or.inr ⟨(wd_127 hw), rfl, rfl⟩) (wd_106 hw) (ty := .long) (by decide) rfl rfl ga (fun T h13 X W13 => ?_)
  have f26 := f25.same W13
  have K27 : Keep h0 h13 [a] := K23.wr W13 (Or.inl (List.mem_of_getElem? (i := 0) rfl))
  have f28 := (f24.wr W13)
  have f29 := (((((f6.other W9 (Or.inr (slot_ne (Or.inr (wd_117 hw)) (Or.inr (wd_119 hw)) (by decide) (t := (.object "java/lang/String")) (t' := (.object "com/example/bounded_lock/boundedlock/engine/SemaphoreName")) (by decide) (by decide)))).other W10 (Or.inr (slot_ne (Or.inr (wd_117 hw)) (Or.inr (wd_121 hw)) (by decide) (t := (.object "java/lang/String")) (t' := .int) (by decide) (by decide)))).other W11 (Or.inr (slot_ne (Or.inr (wd_117 hw)) (Or.inr (wd_123 hw)) (by decide) (t := (.object "java/lang/String")) (t' := .long) (by decide) (by decide)))).other W12 (Or.inr (slot_ne (Or.inr (wd_117 hw)) (Or.inr (wd_125 hw)) (by decide) (t := (.object "java/lang/String")) (t' := (.object "java/lang/String")) (by decide) (by decide)))).other W13 (Or.inr (slot_ne (Or.inr (wd_117 hw)) (Or.inr (wd_127 hw)) (by decide) (t := (.object "java/lang/String")) (t' := .long) (by decide) (by decide))))
  have f30 := ((((f10.other W10 (Or.inr (slot_ne (Or.inr (wd_119 hw)) (Or.inr (wd_121 hw)) (by decide) (t := (.object "com/example/bounded_lock/boundedlock/engine/SemaphoreName")) (t' := .int) (by decide) (by decide)))).other W11 (Or.inr (slot_ne (Or.inr (wd_119 hw)) (Or.inr (wd_123 hw)) (by decide) (t := (.object "com/example/bounded_lock/boundedlock/engine/SemaphoreName")) (t' := .long) (by decide) (by decide)))).other W12 (Or.inr (slot_ne (Or.inr (wd_119 hw)) (Or.inr (wd_125 hw)) (by decide) (t := (.object "com/example/bounded_lock/boundedlock/engine/SemaphoreName")) (t' := (.object "java/lang/String")) (by decide) (by decide)))).other W13 (Or.inr (slot_ne (Or.inr (wd_119 hw)) (Or.inr (wd_127 hw)) (by decide) (t := (.object "com/example/bounded_lock/boundedlock/engine/SemaphoreName")) (t' := .long) (by decide) (by decide))))
  have f31 := (((f14.other W11 (Or.inr (slot_ne (Or.inr (wd_121 hw)) (Or.inr (wd_123 hw)) (by decide) (t := .int) (t' := .long) (by decide) (by decide)))).other W12 (Or.inr (slot_ne (Or.inr (wd_121 hw)) (Or.inr (wd_125 hw)) (by decide) (t := .int) (t' := (.object "java/lang/String")) (by decide) (by decide)))).other W13 (Or.inr (slot_ne (Or.inr (wd_121 hw)) (Or.inr (wd_127 hw)) (by decide) (t := .int) (t' := .long) (by decide) (by decide))))
  have f32 := ((f18.other W12 (Or.inr (slot_ne (Or.inr (wd_123 hw)) (Or.inr (wd_125 hw)) (by decide) (t := .long) (t' := (.object "java/lang/String")) (by decide) (by decide)))).other W13 (Or.inr (slot_ne (Or.inr (wd_123 hw)) (Or.inr (wd_127 hw)) (by decide) (t := .long) (t' := .long) (by decide) (by decide))))
  have f33 := (f22.other W13 (Or.inr (slot_ne (Or.inr (wd_125 hw)) (Or.inr (wd_127 hw)) (by decide) (t := (.object "java/lang/String")) (t' := .long) (by decide) (by decide))))
  exact v_retV X Y dprog_9_1_59 ⟨rfl, f28, f29, f30, f31, f32, f33, f26, K27⟩ (by decide) (by decide)
set_option maxRecDepth 65536 in
set_option maxHeartbeats 40000000 in
theorem m_wt {l : Launch} {Z : State} {a0 : Array Value} {n0 : Nat} (hw : ∀ d ∈ tables_1, d.before a0 Z = true) {h0 : Heap} {a q1 q2 q5 : Addr} {q3 : Int32} {q4 q6 : Int64} {r6 : Int64} (Ea : Exa Z h0 a "com/example/bounded_lock/boundedlock/engine/Lease") (F_id : Fld Z h0 a "com/example/bounded_lock/boundedlock/engine/Lease" "id" "Ljava/lang/String;" (.ref q1)) (F_name : Fld Z h0 a "com/example/bounded_lock/boundedlock/engine/Lease" "name" "Lcom/example/bounded_lock/boundedlock/engine/SemaphoreName;" (.ref q2)) (F_permits : Fld Z h0 a "com/example/bounded_lock/boundedlock/engine/Lease" "permits" "I" (.int q3)) (F_fence : Fld Z h0 a "com/example/bounded_lock/boundedlock/engine/Lease" "fence" "J" (.long q4)) (F_owner : Fld Z h0 a "com/example/bounded_lock/boundedlock/engine/Lease" "owner" "Ljava/lang/String;" (.ref q5)) (F_ttlMs : Fld Z h0 a "com/example/bounded_lock/boundedlock/engine/Lease" "ttlMs" "J" (.long q6)) :
    DoesW l Z n0 ⟨"com/example/bounded_lock/boundedlock/engine/Lease", "withTtlMs", "(J)Lcom/example/bounded_lock/boundedlock/engine/Lease;"⟩ prog_9_method_2_code 3 (some (.object "com/example/bounded_lock/boundedlock/engine/Lease")) [] { frames := 3, cells := 7, slots := 62, locals := 45 } #[(.ref a), (.long r6)] h0 (fun v h => ∃ b, v = some (.ref b) ∧ h0.size ≤ b ∧ n0 ≤ b ∧ Exa Z h b "com/example/bounded_lock/boundedlock/engine/Lease" ∧ Fld Z h b "com/example/bounded_lock/boundedlock/engine/Lease" "id" "Ljava/lang/String;" (.ref q1) ∧ Fld Z h b "com/example/bounded_lock/boundedlock/engine/Lease" "name" "Lcom/example/bounded_lock/boundedlock/engine/SemaphoreName;" (.ref q2) ∧ Fld Z h b "com/example/bounded_lock/boundedlock/engine/Lease" "permits" "I" (.int q3) ∧ Fld Z h b "com/example/bounded_lock/boundedlock/engine/Lease" "fence" "J" (.long q4) ∧ Fld Z h b "com/example/bounded_lock/boundedlock/engine/Lease" "owner" "Ljava/lang/String;" (.ref q5) ∧ Fld Z h b "com/example/bounded_lock/boundedlock/engine/Lease" "ttlMs" "J" (.long r6) ∧ Keep h0 h []) := by
  refine DoesW.start (plainFor_of_name pn_6) ?_
  intro p e s m below meth c T X Y hs0
  replace X : Sd Z n0 0 prog_9_method_2_code 3 "com/example/bounded_lock/boundedlock/engine/Lease" "withTtlMs" (some (.object "com/example/bounded_lock/boundedlock/engine/Lease")) h0 p l e { frames := 3, cells := 7, slots := 62, locals := 45 } (s.setVm s.vm) m #[(.ref a), (.long r6)] below meth c T [] 0 0 := X
  refine Wp.cast (g' := mkF m 0 #[.val (.ref a), .val (.long r6), .second] []) (by first | (simp [entryFrame, mkF, argsToLocals, Value.category, maxLocals]; done) | rfl) ?_
  refine w_new X dprog_9_2_0 (wd_133 hw) (wd_106 hw) (wd_107 hw) (by decide) (by decide) (fun T h1 b1 g1 gn1 X E1 A1 D1 => ?_)
  have sz_b1 : h0.size ≤ b1 := Nat.le_trans (Keep.refl h0 []).1 (Nat.le_of_eq g1.symm)
  have K1 : Keep h0 h1 [] := (Keep.refl h0 []).ext E1
  refine w_dup X dprog_9_2_3 rfl ?_
  refine w_aloadN X dprog_9_2_4 rfl (rfl) ?_
  have f2 := (F_id.ext E1)
  refine w_getF X dprog_9_2_5 (host := "") (Or.inl (wd_116 hw)) Via.refl f2 (fun T X => ?_)
  refine w_aloadN X dprog_9_2_8 rfl (rfl) ?_
  have f3 := (F_name.ext E1)
  refine w_getF X dprog_9_2_9 (host := "") (Or.inl (wd_118 hw)) Via.refl f3 (fun T X => ?_)
  refine w_aloadN X dprog_9_2_12 rfl (rfl) ?_
  have f4 := (F_permits.ext E1)
  refine w_getF X dprog_9_2_13 (host := "") (Or.inl (wd_120 hw)) Via.refl f4 (fun T X => ?_)
  refine w_aloadN X dprog_9_2_16 rfl (rfl) ?_
  have f5 := (F_fence.ext E1)
  refine w_getF X dprog_9_2_17 (host := "") (Or.inl (wd_122 hw)) Via.refl f5 (fun T X => ?_)
  refine w_aloadN X dprog_9_2_20 rfl (rfl) ?_
  have f6 := (F_owner.ext E1)
  refine w_getF X dprog_9_2_21 (host := "") (Or.inl (wd_124 hw)) Via.refl f6 (fun T X => ?_)
  refine w_lloadN X dprog_9_2_24 rfl ?_
  refine v_callI X Y dprog_9_2_25 rfl (wd_134 hw) (wd_109 hw) (wd_107 hw) (wd_110 hw) (by decide) (argsL := [(.ref q1), (.ref q2), (.int q3), (.long q4), (.ref q5), (.long r6)]) (S := [(.ref b1)]) (m_le hw gn1 A1 (show Fld Z h1 b1 "com/example/bounded_lock/boundedlock/engine/Lease" "id" "Ljava/lang/String;" .null from D1 (Or.inr (wd_117 hw)) (ty := (.object "java/lang/String")) (by decide)) (show Fld Z h1 b1 "com/example/bounded_lock/boundedlock/engine/Lease" "name" "Lcom/example/bounded_lock/boundedlock/engine/SemaphoreName;" .null from D1 (Or.inr (wd_119 hw)) (ty := (.object "com/example/bounded_lock/boundedlock/engine/SemaphoreName")) (by decide)) (show Fld Z h1 b1 "com/example/bounded_lock/boundedlock/engine/Lease" "permits" "I" (.int (0 : Int32)) from D1 (Or.inr (wd_121 hw)) (ty := .int) (by decide)) (show Fld Z h1 b1 "com/example/bounded_lock/boundedlock/engine/Lease" "fence" "J" (.long (0 : Int64)) from D1 (Or.inr (wd_123 hw)) (ty := .long) (by decide)) (show Fld Z h1 b1 "com/example/bounded_lock/boundedlock/engine/Lease" "owner" "Ljava/lang/String;" .null from D1 (Or.inr (wd_125 hw)) (ty := (.object "java/lang/String")) (by decide)) (show Fld Z h1 b1 "com/example/bounded_lock/boundedlock/engine/Lease" "ttlMs" "J" (.long (0 : Int64)) from D1 (Or.inr (wd_127 hw)) (ty := .long) (by decide))) pd_10 rfl rfl rfl (by decide) (Nat.le_of_ble_eq_true rfl) (by decide) (by decide) (fun T h2 v2 L2 u kk X Y q2 => ?_)
  obtain ⟨rfl, Ex2, Fid2, Fname2, Fpermits2, Ffence2, Fowner2, FttlMs2, Kc2⟩ := q2
  have K7 : Keep h0 h2 [] := K1.trans Kc2 (fun x hx => by cases List.mem_singleton.mp hx; exact (Or.inr sz_b1))
  show Wp p e below _ (T.setTop (mkF m 28 #[.val (.ref a), .val (.long r6), .second] [(.ref b1)]))
  exact v_retR X Y rfl (rfl) rfl dprog_9_2_28 ⟨_, rfl, sz_b1, gn1, Ex2, Fid2, Fname2, Fpermits2, Ffence2, Fowner2, FttlMs2, K7⟩ (by decide) (by decide)
set_option maxRecDepth 65536 in
set_option maxHeartbeats 40000000 in
theorem m_g_id {l : Launch} {Z : State} {a0 : Array Value} {n0 : Nat} (hw : ∀ d ∈ tables_1, d.before a0 Z = true) {h0 : Heap} {a : Addr} {r : Addr} (F : Fld Z h0 a "com/example/bounded_lock/boundedlock/engine/Lease" "id" "Ljava/lang/String;" (.ref r)) :
    Does l Z n0 ⟨"com/example/bounded_lock/boundedlock/engine/Lease", "id", "()Ljava/lang/String;"⟩ prog_9_method_6_code 1 (some (.object "java/lang/String")) [] { frames := 0, cells := 0, slots := 0, locals := 0 } #[(.ref a)] h0 (fun v h => v = some (.ref r) ∧ h0 = h) := by
  refine Does.start (plainFor_of_name pn_6) ?_
  intro p e s m below meth c T X
  replace X : Sd Z n0 0 prog_9_method_6_code 1 "com/example/bounded_lock/boundedlock/engine/Lease" "id" (some (.object "java/lang/String")) h0 p l e { frames := 0, cells := 0, slots := 0, locals := 0 } s m #[(.ref a)] below meth c T [] 0 0 := X
  refine Wp.cast (g' := mkF m 0 #[.val (.ref a)] []) (by first | (simp [entryFrame, mkF, argsToLocals, Value.category, maxLocals]; done) | rfl) ?_
  refine w_aloadN X dprog_9_6_0 rfl (rfl) ?_
  refine w_getF X dprog_9_6_1 (host := "") (Or.inl (wd_116 hw)) Via.refl F (fun T X => ?_)
  exact w_retR X rfl (rfl) rfl dprog_9_6_4 ⟨rfl, rfl⟩ (by decide) (by decide)
set_option maxRecDepth 65536 in
set_option maxHeartbeats 40000000 in
theorem m_g_name {l : Launch} {Z : State} {a0 : Array Value} {n0 : Nat} (hw : ∀ d ∈ tables_1, d.before a0 Z = true) {h0 : Heap} {a : Addr} {r : Addr} (F : Fld Z h0 a "com/example/bounded_lock/boundedlock/engine/Lease" "name" "Lcom/example/bounded_lock/boundedlock/engine/SemaphoreName;" (.ref r)) :
    Does l Z n0 ⟨"com/example/bounded_lock/boundedlock/engine/Lease", "name", "()Lcom/example/bounded_lock/boundedlock/engine/SemaphoreName;"⟩ prog_9_method_7_code 1 (some (.object "com/example/bounded_lock/boundedlock/engine/SemaphoreName")) [] { frames := 0, cells := 0, slots := 0, locals := 0 } #[(.ref a)] h0 (fun v h => v = some (.ref r) ∧ h0 = h) := by
  refine Does.start (plainFor_of_name pn_6) ?_
  intro p e s m below meth c T X
  replace X : Sd Z n0 0 prog_9_method_7_code 1 "com/example/bounded_lock/boundedlock/engine/Lease" "name" (some (.object "com/example/bounded_lock/boundedlock/engine/SemaphoreName")) h0 p l e { frames := 0, cells := 0, slots := 0, locals := 0 } s m #[(.ref a)] below meth c T [] 0 0 := X
  refine Wp.cast (g' := mkF m 0 #[.val (.ref a)] []) (by first | (simp [entryFrame, mkF, argsToLocals, Value.category, maxLocals]; done) | rfl) ?_
  refine w_aloadN X dprog_9_7_0 rfl (rfl) ?_
  refine w_getF X dprog_9_7_1 (host := "") (Or.inl (wd_118 hw)) Via.refl F (fun T X => ?_)
  exact w_retR X rfl (rfl) rfl dprog_9_7_4 ⟨rfl, rfl⟩ (by decide) (by decide)
set_option maxRecDepth 65536 in
set_option maxHeartbeats 40000000 in
theorem m_g_permits {l : Launch} {Z : State} {a0 : Array Value} {n0 : Nat} (hw : ∀ d ∈ tables_1, d.before a0 Z = true) {h0 : Heap} {a : Addr} {r : Int32} (F : Fld Z h0 a "com/example/bounded_lock/boundedlock/engine/Lease" "permits" "I" (.int r)) :
    Does l Z n0 ⟨"com/example/bounded_lock/boundedlock/engine/Lease", "permits", "()I"⟩ prog_9_method_8_code 1 (some .int) [] { frames := 0, cells := 0, slots := 0, locals := 0 } #[(.ref a)] h0 (fun v h => v = some (.int r) ∧ h0 = h) := by
  refine Does.start (plainFor_of_name pn_6) ?_
  intro p e s m below meth c T X
  replace X : Sd Z n0 0 prog_9_method_8_code 1 "com/example/bounded_lock/boundedlock/engine/Lease" "permits" (some .int) h0 p l e { frames := 0, cells := 0, slots := 0, locals := 0 } s m #[(.ref a)] below meth c T [] 0 0 := X
  refine Wp.cast (g' := mkF m 0 #[.val (.ref a)] []) (by first | (simp [entryFrame, mkF, argsToLocals, Value.category, maxLocals]; done) | rfl) ?_
  refine w_aloadN X dprog_9_8_0 rfl (rfl) ?_
  refine w_getF X dprog_9_8_1 (host := "") (Or.inl (wd_120 hw)) Via.refl F (fun T X => ?_)
  exact w_retI X dprog_9_8_4 ⟨rfl, rfl⟩ (by decide) (by decide)
set_option maxRecDepth 65536 in
set_option maxHeartbeats 40000000 in
theorem m_g_fence {l : Launch} {Z : State} {a0 : Array Value} {n0 : Nat} (hw : ∀ d ∈ tables_1, d.before a0 Z = true) {h0 : Heap} {a : Addr} {r : Int64} (F : Fld Z h0 a "com/example/bounded_lock/boundedlock/engine/Lease" "fence" "J" (.long r)) :
    Does l Z n0 ⟨"com/example/bounded_lock/boundedlock/engine/Lease", "fence", "()J"⟩ prog_9_method_9_code 1 (some .long) [] { frames := 0, cells := 0, slots := 0, locals := 0 } #[(.ref a)] h0 (fun v h => v = some (.long r) ∧ h0 = h) := by
  refine Does.start (plainFor_of_name pn_6) ?_
  intro p e s m below meth c T X
  replace X : Sd Z n0 0 prog_9_method_9_code 1 "com/example/bounded_lock/boundedlock/engine/Lease" "fence" (some .long) h0 p l e { frames := 0, cells := 0, slots := 0, locals := 0 } s m #[(.ref a)] below meth c T [] 0 0 := X
  refine Wp.cast (g' := mkF m 0 #[.val (.ref a)] []) (by first | (simp [entryFrame, mkF, argsToLocals, Value.category, maxLocals]; done) | rfl) ?_
  refine w_aloadN X dprog_9_9_0 rfl (rfl) ?_
  refine w_getF X dprog_9_9_1 (host := "") (Or.inl (wd_122 hw)) Via.refl F (fun T X => ?_)
  exact w_retJ X dprog_9_9_4 ⟨rfl, rfl⟩ (by decide) (by decide)
set_option maxRecDepth 65536 in
set_option maxHeartbeats 40000000 in
theorem m_g_owner {l : Launch} {Z : State} {a0 : Array Value} {n0 : Nat} (hw : ∀ d ∈ tables_1, d.before a0 Z = true) {h0 : Heap} {a : Addr} {r : Addr} (F : Fld Z h0 a "com/example/bounded_lock/boundedlock/engine/Lease" "owner" "Ljava/lang/String;" (.ref r)) :
    Does l Z n0 ⟨"com/example/bounded_lock/boundedlock/engine/Lease", "owner", "()Ljava/lang/String;"⟩ prog_9_method_10_code 1 (some (.object "java/lang/String")) [] { frames := 0, cells := 0, slots := 0, locals := 0 } #[(.ref a)] h0 (fun v h => v = some (.ref r) ∧ h0 = h) := by
  refine Does.start (plainFor_of_name pn_6) ?_
  intro p e s m below meth c T X
  replace X : Sd Z n0 0 prog_9_method_10_code 1 "com/example/bounded_lock/boundedlock/engine/Lease" "owner" (some (.object "java/lang/String")) h0 p l e { frames := 0, cells := 0, slots := 0, locals := 0 } s m #[(.ref a)] below meth c T [] 0 0 := X
  refine Wp.cast (g' := mkF m 0 #[.val (.ref a)] []) (by first | (simp [entryFrame, mkF, argsToLocals, Value.category, maxLocals]; done) | rfl) ?_
  refine w_aloadN X dprog_9_10_0 rfl (rfl) ?_
  refine w_getF X dprog_9_10_1 (host := "") (Or.inl (wd_124 hw)) Via.refl F (fun T X => ?_)
  exact w_retR X rfl (rfl) rfl dprog_9_10_4 ⟨rfl, rfl⟩ (by decide) (by decide)
set_option maxRecDepth 65536 in
set_option maxHeartbeats 40000000 in
theorem m_g_ttlMs {l : Launch} {Z : State} {a0 : Array Value} {n0 : Nat} (hw : ∀ d ∈ tables_1, d.before a0 Z = true) {h0 : Heap} {a : Addr} {r : Int64} (F : Fld Z h0 a "com/example/bounded_lock/boundedlock/engine/Lease" "ttlMs" "J" (.long r)) :
    Does l Z n0 ⟨"com/example/bounded_lock/boundedlock/engine/Lease", "ttlMs", "()J"⟩ prog_9_method_11_code 1 (some .long) [] { frames := 0, cells := 0, slots := 0, locals := 0 } #[(.ref a)] h0 (fun v h => v = some (.long r) ∧ h0 = h) := by
  refine Does.start (plainFor_of_name pn_6) ?_
  intro p e s m below meth c T X
  replace X : Sd Z n0 0 prog_9_method_11_code 1 "com/example/bounded_lock/boundedlock/engine/Lease" "ttlMs" (some .long) h0 p l e { frames := 0, cells := 0, slots := 0, locals := 0 } s m #[(.ref a)] below meth c T [] 0 0 := X
  refine Wp.cast (g' := mkF m 0 #[.val (.ref a)] []) (by first | (simp [entryFrame, mkF, argsToLocals, Value.category, maxLocals]; done) | rfl) ?_
  refine w_aloadN X dprog_9_11_0 rfl (rfl) ?_
  refine w_getF X dprog_9_11_1 (host := "") (Or.inl (wd_126 hw)) Via.refl F (fun T X => ?_)
  exact w_retJ X dprog_9_11_4 ⟨rfl, rfl⟩ (by decide) (by decide)
set_option maxRecDepth 65536 in
set_option maxHeartbeats 40000000 in
theorem m_c5_1 {l : Launch} {Z : State} {a0 : Array Value} {n0 : Nat} (hw : ∀ d ∈ tables_1, d.before a0 Z = true) {h0 : Heap} {a b : Addr} {c0 : Int32} (Aa : Ary Z h0 a .char [(.int c0)]) (Ab : Ary Z h0 b .byte [(.int (0 : Int32))]) (gb : n0 ≤ b) (nab : a ≠ b) (l0 : ¬ (255 : Int32) < c0) :
    Does l Z n0 ⟨"java/lang/StringUTF16", "compress", "([CI[BII)I"⟩ jdk_52_method_21_code 7 (some .int) [] { frames := 0, cells := 0, slots := 0, locals := 0 } #[(.ref a), (.int (0 : Int32)), (.ref b), (.int (0 : Int32)), (.int (1 : Int32))] h0 (fun v h => v = some (.int (1 : Int32)) ∧ Ary Z h b .byte [(.int (c0.toInt8.toInt32))] ∧ Keep h0 h [b]) := by
  refine Does.start (plainFor_of_name pn_7) ?_
  intro p e s m below meth c T X
  replace X : Sd Z n0 0 jdk_52_method_21_code 7 "java/lang/StringUTF16" "compress" (some .int) h0 p l e { frames := 0, cells := 0, slots := 0, locals := 0 } s m #[(.ref a), (.int (0 : Int32)), (.ref b), (.int (0 : Int32)), (.int (1 : Int32))] below meth c T [] 0 0 := X
  refine Wp.cast (g' := mkF m 0 #[.val (.ref a), .val (.int (0 : Int32)), .val (.ref b), .val (.int (0 : Int32)), .val (.int (1 : Int32)), .unset, .unset] []) (by first | (simp [entryFrame, mkF, argsToLocals, Value.category, maxLocals]; done) | rfl) ?_
  refine w_iconst X (0 : Int32) djdk_52_21_0 rfl ?_
  refine w_istore X #[.val (.ref a), .val (.int (0 : Int32)), .val (.ref b), .val (.int (0 : Int32)), .val (.int (1 : Int32)), .val (.int (0 : Int32)), .unset] djdk_52_21_1 rfl ?_
  refine w_iload X djdk_52_21_3 rfl ?_
  refine w_iload X djdk_52_21_5 rfl ?_
  refine w_icmpge X djdk_52_21_7 (fun hc => absurd (by decide) hc) (fun _ => ?_)
  refine w_aloadN X djdk_52_21_10 rfl (rfl) ?_
  refine w_iloadN X djdk_52_21_11 rfl ?_
  refine w_caload X djdk_52_21_12 Aa (by decide) rfl ?_
  refine w_istore X #[.val (.ref a), .val (.int (0 : Int32)), .val (.ref b), .val (.int (0 : Int32)), .val (.int (1 : Int32)), .val (.int (0 : Int32)), .val (.int c0)] djdk_52_21_13 rfl ?_
  refine w_iload X djdk_52_21_15 rfl ?_
  refine w_sipush X (255 : Int32) djdk_52_21_17 rfl ?_
  refine w_icmple X djdk_52_21_20 (fun _ => ?_) (fun hc => absurd hc l0)
  refine w_aloadN X djdk_52_21_26 rfl (rfl) ?_
  refine w_iloadN X djdk_52_21_27 rfl ?_
  refine w_iload X djdk_52_21_28 rfl ?_
  refine w_i2b X djdk_52_21_30 ?_
  refine w_bastore X djdk_52_21_31 Ab (by decide) rfl gb (.int (c0.toInt8.toInt32)) (congrArg Value.int (own_nar_b _)) [(.int (c0.toInt8.toInt32))] rfl (fun T h1 X W1 A1 => ?_)
  have K1 : Keep h0 h1 [b] := (Keep.refl h0 [b]).wr W1 (Or.inl (List.mem_of_getElem? (i := 0) rfl))
  refine w_iinc X (1 : Int32) #[.val (.ref a), .val (.int (1 : Int32)), .val (.ref b), .val (.int (0 : Int32)), .val (.int (1 : Int32)), .val (.int (0 : Int32)), .val (.int c0)] djdk_52_21_32 rfl rfl rfl ?_
  refine w_iinc X (1 : Int32) #[.val (.ref a), .val (.int (1 : Int32)), .val (.ref b), .val (.int (1 : Int32)), .val (.int (1 : Int32)), .val (.int (0 : Int32)), .val (.int c0)] djdk_52_21_35 rfl rfl rfl ?_
  refine w_iinc X (1 : Int32) #[.val (.ref a), .val (.int (1 : Int32)), .val (.ref b), .val (.int (1 : Int32)), .val (.int (1 : Int32)), .val (.int (1 : Int32)), .val (.int c0)] djdk_52_21_38 rfl rfl rfl ?_
  refine w_goto X djdk_52_21_41 ?_
  refine w_iload X djdk_52_21_3 rfl ?_
  refine w_iload X djdk_52_21_5 rfl ?_
  refine w_icmpge X djdk_52_21_7 (fun _ => ?_) (fun hc => absurd hc Int32.lt_irrefl)
  refine w_iload X djdk_52_21_44 rfl ?_
  exact w_retI X djdk_52_21_46 ⟨rfl, A1, K1⟩ (by decide) (by decide)
set_option maxRecDepth 65536 in
set_option maxHeartbeats 40000000 in
theorem m_c3_1 {l : Launch} {Z : State} {a0 : Array Value} {n0 : Nat} (hw : ∀ d ∈ tables_1, d.before a0 Z = true) {h0 : Heap} {a : Addr} {c0 : Int32} (Aa : Ary Z h0 a .char [(.int c0)]) (l0 : ¬ (255 : Int32) < c0) :
    Does l Z n0 ⟨"java/lang/StringUTF16", "compress", "([CII)[B"⟩ jdk_52_method_16_code 6 (some (.array .byte)) [] { frames := 1, cells := 1, slots := 1, locals := 18 } #[(.ref a), (.int (0 : Int32)), (.int (1 : Int32))] h0 (fun v h => ∃ t, v = some (.ref t) ∧ h0.size ≤ t ∧ n0 ≤ t ∧ Ary Z h t .byte [(.int (c0.toInt8.toInt32))] ∧ Keep h0 h []) := by
  refine Does.start (plainFor_of_name pn_7) ?_
  intro p e s m below meth c T X
  replace X : Sd Z n0 0 jdk_52_method_16_code 6 "java/lang/StringUTF16" "compress" (some (.array .byte)) h0 p l e { frames := 1, cells := 1, slots := 1, locals := 18 } s m #[(.ref a), (.int (0 : Int32)), (.int (1 : Int32))] below meth c T [] 0 0 := X
  refine Wp.cast (g' := mkF m 0 #[.val (.ref a), .val (.int (0 : Int32)), .val (.int (1 : Int32)), .unset, .unset, .unset] []) (by first | (simp [entryFrame, mkF, argsToLocals, Value.category, maxLocals]; done) | rfl) ?_
  refine w_iloadN X djdk_52_16_0 rfl ?_
  refine w_newarr X djdk_52_16_1 (wd_19 hw) 1 1 (by decide) (by decide) (by decide) (by decide) (by decide) (by decide) (fun T h1 b1 g1 gn1 X E1 A1 => ?_)
  replace A1 : Ary Z h1 b1 .byte [(.int (0 : Int32))] := A1
  have sz_b1 : h0.size ≤ b1 := Nat.le_trans (Keep.refl h0 []).1 (Nat.le_of_eq g1.symm)
  have K1 : Keep h0 h1 [] := (Keep.refl h0 []).ext E1
  refine w_astoreN X #[.val (.ref a), .val (.int (0 : Int32)), .val (.int (1 : Int32)), .val (.ref b1), .unset, .unset] djdk_52_16_3 (rfl) rfl ?_
  refine w_aloadN X djdk_52_16_4 rfl (rfl) ?_
  refine w_iloadN X djdk_52_16_5 rfl ?_
  refine w_aloadN X djdk_52_16_6 rfl (rfl) ?_
  refine w_iconst X (0 : Int32) djdk_52_16_7 rfl ?_
  refine w_iloadN X djdk_52_16_8 rfl ?_
  have f2 := (Aa.ext E1)
  refine w_callS X djdk_52_16_9 (wd_20 hw) (wd_21 hw) (wd_17 hw) (wd_22 hw) (by decide) (argsL := [(.ref a), (.int (0 : Int32)), (.ref b1), (.int (0 : Int32)), (.int (1 : Int32))]) (S := []) (m_c5_1 hw f2 A1 gn1 (Nat.ne_of_lt (Nat.lt_of_lt_of_le Aa.lt (Nat.le_of_eq g1.symm))) l0) pd_11 rfl rfl rfl (by decide) (Nat.le_of_ble_eq_true rfl) (by decide) (by decide) (fun T h2 v2 L2 X q2 => ?_)
  obtain ⟨rfl, Ac2, Kc2⟩ := q2
  have K3 : Keep h0 h2 [] := K1.trans Kc2 (fun x hx => by cases List.mem_singleton.mp hx; exact (Or.inr sz_b1))
  show Wp p e below _ (T.setTop (mkF m 12 #[.val (.ref a), .val (.int (0 : Int32)), .val (.int (1 : Int32)), .val (.ref b1), .unset, .unset] [(.int (1 : Int32))]))
  refine w_istore X #[.val (.ref a), .val (.int (0 : Int32)), .val (.int (1 : Int32)), .val (.ref b1), .val (.int (1 : Int32)), .unset] djdk_52_16_12 rfl ?_
  refine w_iload X djdk_52_16_14 rfl ?_
  refine w_iloadN X djdk_52_16_16 rfl ?_
  refine w_icmpeq X djdk_52_16_17 (fun _ => ?_) (fun hc => absurd rfl hc)
  refine w_aloadN X djdk_52_16_57 rfl (rfl) ?_
  exact w_retR X rfl (rfl) rfl djdk_52_16_58 ⟨_, rfl, sz_b1, gn1, Ac2, K3⟩ (by decide) (by decide)
set_option maxRecDepth 65536 in
set_option maxHeartbeats 40000000 in
theorem m_cfal_1 {l : Launch} {Z : State} {a0 : Array Value} {n0 : Nat} (hw : ∀ d ∈ tables_1, d.before a0 Z = true) {h0 : Heap} {a : Addr} {v0 : Value} (Aa : Ary Z h0 a .byte [v0]) :
    Does l Z n0 ⟨"java/lang/StringUTF16", "coderFromArrayLen", "([BI)B"⟩ jdk_52_method_15_code 2 (some .byte) [] { frames := 0, cells := 0, slots := 0, locals := 0 } #[(.ref a), (.int (1 : Int32))] h0 (fun v h => v = some (.int (0 : Int32)) ∧ h0 = h) := by
  refine Does.start (plainFor_of_name pn_7) ?_
  intro p e s m below meth c T X
  replace X : Sd Z n0 0 jdk_52_method_15_code 2 "java/lang/StringUTF16" "coderFromArrayLen" (some .byte) h0 p l e { frames := 0, cells := 0, slots := 0, locals := 0 } s m #[(.ref a), (.int (1 : Int32))] below meth c T [] 0 0 := X
  refine Wp.cast (g' := mkF m 0 #[.val (.ref a), .val (.int (1 : Int32))] []) (by first | (simp [entryFrame, mkF, argsToLocals, Value.category, maxLocals]; done) | rfl) ?_
  refine w_iloadN X djdk_52_15_0 rfl ?_
  refine w_aloadN X djdk_52_15_1 rfl (rfl) ?_
  refine w_arrlen X (1 : Int32) djdk_52_15_2 Aa rfl ?_
  refine w_isub X djdk_52_15_3 ?_
  refine w_bipush X (31 : Int32) djdk_52_15_4 rfl ?_
  refine w_iushr X djdk_52_15_6 ?_
  refine w_i2b X djdk_52_15_7 ?_
  exact w_ret_byte X (0 : Int32) (by decide) djdk_52_15_8 ⟨rfl, rfl⟩ (by decide) (by decide)
set_option maxRecDepth 65536 in
set_option maxHeartbeats 40000000 in
theorem m_si4_1 {l : Launch} {Z : State} {a0 : Array Value} {n0 : Nat} (hw : ∀ d ∈ tables_1, d.before a0 Z = true) {h0 : Heap} {zc : Int32} {fm : Value} {a b : Addr} {c0 : Int32} (S_zc : Sta Z Z.heap "java/lang/String" "COMPACT_STRINGS" "Z" (.int zc)) (hzc : ¬ zc = 0) (S_fm : Sta Z Z.heap "jdk/internal/util/Preconditions" "SIOOBE_FORMATTER" "Ljava/util/function/BiFunction;" fm) (hfm : fm.isRef = true) (ga : n0 ≤ a) (Ea : Exa Z h0 a "java/lang/String") (Va : Fld Z h0 a "java/lang/String" "value" "[B" .null) (Ca : Fld Z h0 a "java/lang/String" "coder" "B" (.int (0 : Int32))) (Ab : Ary Z h0 b .char [(.int c0)]) (l0 : ¬ (255 : Int32) < c0) :
    Does l Z n0 ⟨"java/lang/String", "<init>", "([CIILjava/lang/Void;)V"⟩ jdk_42_method_149_code 6 none [] { frames := 2, cells := 1, slots := 1, locals := 35 } #[(.ref a), (.ref b), (.int (0 : Int32)), (.int (1 : Int32)), .null] h0 (fun v h => v = none ∧ Exa Z h a "java/lang/String" ∧ Fld Z h a "java/lang/String" "coder" "B" (.int (0 : Int32)) ∧ Keep h0 h [a] ∧ ∃ t, h0.size ≤ t ∧ n0 ≤ t ∧ Fld Z h a "java/lang/String" "value" "[B" (.ref t) ∧ Ary Z h t .byte [(.int (c0.toInt8.toInt32))]) := by
  refine Does.start (plainFor_of_name pn_3) ?_
  intro p e s m below meth c T X
  replace X : Sd Z n0 0 jdk_42_method_149_code 6 "java/lang/String" "<init>" none h0 p l e { frames := 2, cells := 1, slots := 1, locals := 35 } s m #[(.ref a), (.ref b), (.int (0 : Int32)), (.int (1 : Int32)), .null] below meth c T [] 0 0 := X
  refine Wp.cast (g' := mkF m 0 #[.val (.ref a), .val (.ref b), .val (.int (0 : Int32)), .val (.int (1 : Int32)), .val .null, .unset] []) (by first | (simp [entryFrame, mkF, argsToLocals, Value.category, maxLocals]; done) | rfl) ?_
  refine w_aloadN X djdk_42_149_0 rfl (rfl) ?_
  refine w_initO X djdk_42_149_1 (wd_11 hw) (wd_12 hw) (wd_13 hw) rfl (by decide) (Nat.le_of_ble_eq_true rfl) (fun T X => ?_)
  refine w_iloadN X djdk_42_149_4 rfl ?_
  refine w_ifne X djdk_42_149_5 (fun _ => ?_) (fun hc => absurd hc (by decide))
  refine w_getS X djdk_42_149_27 (host := "") (Or.inl (wd_14 hw)) Via.refl (S_zc.ext X.old.2) (fun T X => ?_)
  refine w_ifeq X djdk_42_149_30 (fun hc => absurd hc hzc) (fun _ => ?_)
  refine w_aloadN X djdk_42_149_33 rfl (rfl) ?_
  refine w_iloadN X djdk_42_149_34 rfl ?_
  refine w_iloadN X djdk_42_149_35 rfl ?_
  refine w_callS X djdk_42_149_36 (wd_15 hw) (wd_16 hw) (wd_17 hw) (wd_18 hw) (by decide) (argsL := [(.ref b), (.int (0 : Int32)), (.int (1 : Int32))]) (S := []) (m_c3_1 hw Ab l0) pd_12 rfl rfl rfl (by decide) (Nat.le_of_ble_eq_true rfl) (by decide) (by decide) (fun T h1 v1 L1 X q1 => ?_)
  obtain ⟨t1, rfl, gt1, gn1, At1, Kc1⟩ := q1
  have K1 : Keep h0 h1 [a] := (Keep.refl h0 [a]).trans Kc1 (fun x hx => nomatch hx)
  have sz_t1 : h0.size ≤ t1 := Nat.le_trans (Keep.refl h0 [a]).1 gt1
  show Wp p e below _ (T.setTop (mkF m 39 #[.val (.ref a), .val (.ref b), .val (.int (0 : Int32)), .val (.int (1 : Int32)), .val .null, .unset] [(.ref t1)]))
  refine w_astore X #[.val (.ref a), .val (.ref b), .val (.int (0 : Int32)), .val (.int (1 : Int32)), .val .null, .val (.ref t1)] djdk_42_149_39 (rfl) rfl ?_
  refine w_aloadN X djdk_42_149_41 rfl (rfl) ?_
  refine w_aload X djdk_42_149_42 rfl (rfl) ?_
  refine w_iloadN X djdk_42_149_44 rfl ?_
  refine w_callS X djdk_42_149_45 (wd_23 hw) (wd_24 hw) (wd_17 hw) (wd_25 hw) (by decide) (argsL := [(.ref t1), (.int (1 : Int32))]) (S := [(.ref a)]) (m_cfal_1 hw At1) pd_13 rfl rfl rfl (by decide) (Nat.le_of_ble_eq_true rfl) (by decide) (by decide) (fun T h2 v2 L2 X q2 => ?_)
  obtain ⟨rfl, rfl⟩ := q2
  show Wp p e below _ (T.setTop (mkF m 48 #[.val (.ref a), .val (.ref b), .val (.int (0 : Int32)), .val (.int (1 : Int32)), .val .null, .val (.ref t1)] [(.int (0 : Int32)), (.ref a)]))
  have f2 := (Ea.keep Kc1)
  have f3 := (Ca.keep Kc1 (List.not_mem_nil))
  refine w_putFN X djdk_42_149_48 (wd_26 hw) Via.refl f3 f2 (Or.inr ⟨(wd_27 hw), rfl, rfl⟩) (wd_2 hw) (ty := .byte) (by decide) (.int (0 : Int32)) rfl (by decide) ga (fun T h3 X W3 => ?_)
  have f4 := f3.same W3
  have K5 : Keep h0 h3 [a] := K1.wr W3 (Or.inl (List.mem_of_getElem? (i := 0) rfl))
  refine w_aloadN X djdk_42_149_51 rfl (rfl) ?_
  refine w_aload X djdk_42_149_52 rfl (rfl) ?_
  have f6 := (f2.wr W3)
  have f7 := ((Va.keep Kc1 (List.not_mem_nil)).other W3 (Or.inr (slot_ne (Or.inr (wd_29 hw)) (Or.inr (wd_27 hw)) (by decide) (t := (.array .byte)) (t' := .byte) (by decide) (by decide))))
  refine w_putF X djdk_42_149_54 (host := "") (Or.inl (wd_28 hw)) Via.refl f7 f6 (Or.inr ⟨(wd_29 hw), rfl, rfl⟩) (wd_2 hw) (ty := (.array .byte)) (by decide) rfl rfl ga (fun T h4 X W4 => ?_)
  have f8 := f7.same W4
  have K9 : Keep h0 h4 [a] := K5.wr W4 (Or.inl (List.mem_of_getElem? (i := 0) rfl))
  have f10 := (f6.wr W4)
  have f11 := (f4.other W4 (Or.inr (slot_ne (Or.inr (wd_27 hw)) (Or.inr (wd_29 hw)) (by decide) (t := .byte) (t' := (.array .byte)) (by decide) (by decide))))
  have f12 := ((At1.other W3 (Ne.symm (Nat.ne_of_lt (Nat.lt_of_lt_of_le Ea.lt gt1)))).other W4 (Ne.symm (Nat.ne_of_lt (Nat.lt_of_lt_of_le Ea.lt gt1))))
  exact w_retV X djdk_42_149_57 ⟨rfl, f10, f11, K9, _, sz_t1, gn1, f8, f12⟩ (by decide) (by decide)
set_option maxRecDepth 65536 in
set_option maxHeartbeats 40000000 in
theorem m_si_1 {l : Launch} {Z : State} {a0 : Array Value} {n0 : Nat} (hw : ∀ d ∈ tables_1, d.before a0 Z = true) {h0 : Heap} {zc : Int32} {fm : Value} {a b : Addr} {c0 : Int32} (S_zc : Sta Z Z.heap "java/lang/String" "COMPACT_STRINGS" "Z" (.int zc)) (hzc : ¬ zc = 0) (S_fm : Sta Z Z.heap "jdk/internal/util/Preconditions" "SIOOBE_FORMATTER" "Ljava/util/function/BiFunction;" fm) (hfm : fm.isRef = true) (ga : n0 ≤ a) (Ea : Exa Z h0 a "java/lang/String") (Va : Fld Z h0 a "java/lang/String" "value" "[B" .null) (Ca : Fld Z h0 a "java/lang/String" "coder" "B" (.int (0 : Int32))) (Ab : Ary Z h0 b .char [(.int c0)]) (l0 : ¬ (255 : Int32) < c0) :
    Does l Z n0 ⟨"java/lang/String", "<init>", "([C)V"⟩ jdk_42_method_3_code 2 none [] { frames := 3, cells := 1, slots := 1, locals := 52 } #[(.ref a), (.ref b)] h0 (fun v h => v = none ∧ Exa Z h a "java/lang/String" ∧ Fld Z h a "java/lang/String" "coder" "B" (.int (0 : Int32)) ∧ Keep h0 h [a] ∧ ∃ t, h0.size ≤ t ∧ n0 ≤ t ∧ Fld Z h a "java/lang/String" "value" "[B" (.ref t) ∧ Ary Z h t .byte [(.int (c0.toInt8.toInt32))]) := by
  refine Does.start (plainFor_of_name pn_3) ?_
  intro p e s m below meth c T X
  replace X : Sd Z n0 0 jdk_42_method_3_code 2 "java/lang/String" "<init>" none h0 p l e { frames := 3, cells := 1, slots := 1, locals := 52 } s m #[(.ref a), (.ref b)] below meth c T [] 0 0 := X
  refine Wp.cast (g' := mkF m 0 #[.val (.ref a), .val (.ref b)] []) (by first | (simp [entryFrame, mkF, argsToLocals, Value.category, maxLocals]; done) | rfl) ?_
  refine w_aloadN X djdk_42_3_0 rfl (rfl) ?_
  refine w_aloadN X djdk_42_3_1 rfl (rfl) ?_
  refine w_iconst X (0 : Int32) djdk_42_3_2 rfl ?_
  refine w_aloadN X djdk_42_3_3 rfl (rfl) ?_
  refine w_arrlen X (1 : Int32) djdk_42_3_4 Ab rfl ?_
  refine w_aconstNull X djdk_42_3_5 ?_
  refine w_callI X djdk_42_3_6 rfl (wd_7 hw) (wd_8 hw) (wd_3 hw) (wd_10 hw) (by decide) (argsL := [(.ref b), (.int (0 : Int32)), (.int (1 : Int32)), .null]) (S := []) (m_si4_1 hw S_zc hzc S_fm hfm ga Ea Va Ca Ab l0) pd_14 rfl rfl rfl (by decide) (Nat.le_of_ble_eq_true rfl) (by decide) (by decide) (fun T h1 v1 L1 X q1 => ?_)
  obtain ⟨rfl, r1⟩ := q1
  show Wp p e below _ (T.setTop (mkF m 9 #[.val (.ref a), .val (.ref b)] []))
  exact w_retV X djdk_42_3_9 ⟨rfl, r1⟩ (by decide) (by decide)
set_option maxRecDepth 65536 in
set_option maxHeartbeats 40000000 in
theorem m_enc {l : Launch} {Z : State} {a0 : Array Value} {n0 : Nat} (hw : ∀ d ∈ tables_1, d.before a0 Z = true) {h0 : Heap} {c0 : Int32} (l0 : ¬ (255 : Int32) < c0) :
    Does l Z n0 ⟨"java/lang/StringLatin1", "canEncode", "(C)Z"⟩ jdk_43_method_3_code 1 (some .boolean) [] { frames := 0, cells := 0, slots := 0, locals := 0 } #[(.int c0)] h0 (fun v h => v = some (.int (1 : Int32)) ∧ h0 = h) := by
  refine Does.start (plainFor_of_name pn_5) ?_
  intro p e s m below meth c T X
  replace X : Sd Z n0 0 jdk_43_method_3_code 1 "java/lang/StringLatin1" "canEncode" (some .boolean) h0 p l e { frames := 0, cells := 0, slots := 0, locals := 0 } s m #[(.int c0)] below meth c T [] 0 0 := X
  refine Wp.cast (g' := mkF m 0 #[.val (.int c0)] []) (by first | (simp [entryFrame, mkF, argsToLocals, Value.category, maxLocals]; done) | rfl) ?_
  refine w_iloadN X djdk_43_3_0 rfl ?_
  refine w_sipush X (255 : Int32) djdk_43_3_1 rfl ?_
  refine w_icmpgt X djdk_43_3_4 (fun hc => absurd hc l0) (fun _ => ?_)
  refine w_iconst X (1 : Int32) djdk_43_3_7 rfl ?_
  refine w_goto X djdk_43_3_8 ?_
  exact w_ret_boolean X (1 : Int32) (by decide) djdk_43_3_12 ⟨rfl, rfl⟩ (by decide) (by decide)
set_option maxRecDepth 65536 in
set_option maxHeartbeats 40000000 in
theorem m_tob {l : Launch} {Z : State} {a0 : Array Value} {n0 : Nat} (hw : ∀ d ∈ tables_1, d.before a0 Z = true) {h0 : Heap} {c0 : Int32}  :
    Does l Z n0 ⟨"java/lang/StringLatin1", "toBytes", "(C)[B"⟩ jdk_43_method_46_code 1 (some (.array .byte)) [] { frames := 0, cells := 1, slots := 1, locals := 0 } #[(.int c0)] h0 (fun v h => ∃ t, v = some (.ref t) ∧ h0.size ≤ t ∧ n0 ≤ t ∧ Ary Z h t .byte [(.int (c0.toInt8.toInt32))] ∧ Keep h0 h []) := by
  refine Does.start (plainFor_of_name pn_5) ?_
  intro p e s m below meth c T X
  replace X : Sd Z n0 0 jdk_43_method_46_code 1 "java/lang/StringLatin1" "toBytes" (some (.array .byte)) h0 p l e { frames := 0, cells := 1, slots := 1, locals := 0 } s m #[(.int c0)] below meth c T [] 0 0 := X
  refine Wp.cast (g' := mkF m 0 #[.val (.int c0)] []) (by first | (simp [entryFrame, mkF, argsToLocals, Value.category, maxLocals]; done) | rfl) ?_
  refine w_iconst X (1 : Int32) djdk_43_46_0 rfl ?_
  refine w_newarr X djdk_43_46_1 (wd_19 hw) 1 1 (by decide) (by decide) (by decide) (by decide) (by decide) (by decide) (fun T h1 b1 g1 gn1 X E1 A1 => ?_)
  replace A1 : Ary Z h1 b1 .byte [(.int (0 : Int32))] := A1
  have sz_b1 : h0.size ≤ b1 := Nat.le_trans (Keep.refl h0 []).1 (Nat.le_of_eq g1.symm)
  have K1 : Keep h0 h1 [] := (Keep.refl h0 []).ext E1
  refine w_dup X djdk_43_46_3 rfl ?_
  refine w_iconst X (0 : Int32) djdk_43_46_4 rfl ?_
  refine w_iloadN X djdk_43_46_5 rfl ?_
  refine w_i2b X djdk_43_46_6 ?_
  refine w_bastore X djdk_43_46_7 A1 (by decide) rfl gn1 (.int (c0.toInt8.toInt32)) (congrArg Value.int (own_nar_b _)) [(.int (c0.toInt8.toInt32))] rfl (fun T h2 X W2 A2 => ?_)
  have K2 : Keep h0 h2 [] := K1.wr W2 (Or.inr sz_b1)
  exact w_retR X rfl (rfl) rfl djdk_43_46_8 ⟨_, rfl, sz_b1, gn1, A2, K2⟩ (by decide) (by decide)
set_option maxRecDepth 65536 in
set_option maxHeartbeats 40000000 in
theorem m_sib {l : Launch} {Z : State} {a0 : Array Value} {n0 : Nat} (hw : ∀ d ∈ tables_1, d.before a0 Z = true) {h0 : Heap} {a b : Addr} (ga : n0 ≤ a) (Ea : Exa Z h0 a "java/lang/String") (Va : Fld Z h0 a "java/lang/String" "value" "[B" .null) (Ca : Fld Z h0 a "java/lang/String" "coder" "B" (.int (0 : Int32))) :
    Does l Z n0 ⟨"java/lang/String", "<init>", "([BB)V"⟩ jdk_42_method_151_code 3 none [] { frames := 1, cells := 0, slots := 0, locals := 12 } #[(.ref a), (.ref b), (.int (0 : Int32))] h0 (fun v h => v = none ∧ Exa Z h a "java/lang/String" ∧ Fld Z h a "java/lang/String" "coder" "B" (.int (0 : Int32)) ∧ Fld Z h a "java/lang/String" "value" "[B" (.ref b) ∧ Keep h0 h [a]) := by
  refine Does.start (plainFor_of_name pn_3) ?_
  intro p e s m below meth c T X
  replace X : Sd Z n0 0 jdk_42_method_151_code 3 "java/lang/String" "<init>" none h0 p l e { frames := 1, cells := 0, slots := 0, locals := 12 } s m #[(.ref a), (.ref b), (.int (0 : Int32))] below meth c T [] 0 0 := X
  refine Wp.cast (g' := mkF m 0 #[.val (.ref a), .val (.ref b), .val (.int (0 : Int32))] []) (by first | (simp [entryFrame, mkF, argsToLocals, Value.category, maxLocals]; done) | rfl) ?_
  refine w_aloadN X djdk_42_151_0 rfl (rfl) ?_
  refine w_initO X djdk_42_151_1 (wd_11 hw) (wd_12 hw) (wd_13 hw) rfl (by decide) (Nat.le_of_ble_eq_true rfl) (fun T X => ?_)
  refine w_aloadN X djdk_42_151_4 rfl (rfl) ?_
  refine w_aloadN X djdk_42_151_5 rfl (rfl) ?_
  refine w_putF X djdk_42_151_6 (host := "") (Or.inl (wd_28 hw)) Via.refl Va Ea (Or.inr ⟨(wd_29 hw), rfl, rfl⟩) (wd_2 hw) (ty := (.array .byte)) (by decide) rfl rfl ga (fun T h1 X W1 => ?_)
  have f1 := Va.same W1
  have K2 : Keep h0 h1 [a] := (Keep.refl h0 [a]).wr W1 (Or.inl (List.mem_of_getElem? (i := 0) rfl))
  refine w_aloadN X djdk_42_151_9 rfl (rfl) ?_
  refine w_iloadN X djdk_42_151_10 rfl ?_
  have f3 := (Ea.wr W1)
  have f4 := (Ca.other W1 (Or.inr (slot_ne (Or.inr (wd_27 hw)) (Or.inr (wd_29 hw)) (by decide) (t := .byte) (t' := (.array .byte)) (by decide) (by decide))))
  refine w_putFN X djdk_42_151_11 (wd_26 hw) Via.refl f4 f3 (Or.inr ⟨(wd_27 hw), rfl, rfl⟩) (wd_2 hw) (ty := .byte) (by decide) (.int (0 : Int32)) rfl (by decide) ga (fun T h2 X W2 => ?_)
  have f5 := f4.same W2
  have K6 : Keep h0 h2 [a] := K2.wr W2 (Or.inl (List.mem_of_getElem? (i := 0) rfl))
  have f7 := (f3.wr W2)
  have f8 := (f1.other W2 (Or.inr (slot_ne (Or.inr (wd_29 hw)) (Or.inr (wd_27 hw)) (by decide) (t := (.array .byte)) (t' := .byte) (by decide) (by decide))))
  exact w_retV X djdk_42_151_14 ⟨rfl, f7, f5, f8, K6⟩ (by decide) (by decide)
set_option maxRecDepth 65536 in
set_option maxHeartbeats 40000000 in
theorem m_vof {l : Launch} {Z : State} {a0 : Array Value} {n0 : Nat} (hw : ∀ d ∈ tables_1, d.before a0 Z = true) {h0 : Heap} {zc : Int32} {fm : Value} {c0 : Int32} (S_zc : Sta Z Z.heap "java/lang/String" "COMPACT_STRINGS" "Z" (.int zc)) (hzc : ¬ zc = 0) (S_fm : Sta Z Z.heap "jdk/internal/util/Preconditions" "SIOOBE_FORMATTER" "Ljava/util/function/BiFunction;" fm) (hfm : fm.isRef = true) (l0 : ¬ (255 : Int32) < c0) :
    Does l Z n0 ⟨"java/lang/String", "valueOf", "(C)Ljava/lang/String;"⟩ jdk_42_method_139_code 1 (some (.object "java/lang/String")) [] { frames := 2, cells := 2, slots := 5, locals := 27 } #[(.int c0)] h0 (fun v h => ∃ a t, v = some (.ref a) ∧ h0.size ≤ a ∧ n0 ≤ a ∧ h0.size ≤ t ∧ n0 ≤ t ∧ Exa Z h a "java/lang/String" ∧ Fld Z h a "java/lang/String" "coder" "B" (.int (0 : Int32)) ∧ Fld Z h a "java/lang/String" "value" "[B" (.ref t) ∧ Ary Z h t .byte [(.int (c0.toInt8.toInt32))] ∧ Keep h0 h []) := by
  refine Does.start (plainFor_of_name pn_3) ?_
  intro p e s m below meth c T X
  replace X : Sd Z n0 0 jdk_42_method_139_code 1 "java/lang/String" "valueOf" (some (.object "java/lang/String")) h0 p l e { frames := 2, cells := 2, slots := 5, locals := 27 } s m #[(.int c0)] below meth c T [] 0 0 := X
  refine Wp.cast (g' := mkF m 0 #[.val (.int c0)] []) (by first | (simp [entryFrame, mkF, argsToLocals, Value.category, maxLocals]; done) | rfl) ?_
  refine w_getS X djdk_42_139_0 (host := "") (Or.inl (wd_14 hw)) Via.refl (S_zc.ext X.old.2) (fun T X => ?_)
  refine w_ifeq X djdk_42_139_3 (fun hc => absurd hc hzc) (fun _ => ?_)
  refine w_iloadN X djdk_42_139_6 rfl ?_
  refine w_callS X djdk_42_139_7 (wd_33 hw) (wd_34 hw) (wd_35 hw) (wd_36 hw) (by decide) (argsL := [(.int c0)]) (S := []) (m_enc hw l0) pd_9 rfl rfl rfl (by decide) (Nat.le_of_ble_eq_true rfl) (by decide) (by decide) (fun T h1 v1 L1 X q1 => ?_)
  obtain ⟨rfl, rfl⟩ := q1
  show Wp p e below _ (T.setTop (mkF m 10 #[.val (.int c0)] [(.int (1 : Int32))]))
  refine w_ifeq X djdk_42_139_10 (fun hc => absurd hc (by decide)) (fun _ => ?_)
  refine w_new X djdk_42_139_13 (wd_37 hw) (wd_2 hw) (wd_3 hw) (by decide) (by decide) (fun T h2 b2 g2 gn2 X E2 A2 D2 => ?_)
  have sz_b2 : h0.size ≤ b2 := Nat.le_trans (Keep.refl h0 []).1 (Nat.le_of_eq g2.symm)
  have K1 : Keep h0 h2 [] := (Keep.refl h0 []).ext E2
  refine w_dup X djdk_42_139_16 rfl ?_
  refine w_iloadN X djdk_42_139_17 rfl ?_
  refine w_callS X djdk_42_139_18 (wd_38 hw) (wd_39 hw) (wd_35 hw) (wd_40 hw) (by decide) (argsL := [(.int c0)]) (S := [(.ref b2), (.ref b2)]) (m_tob hw (c0 := c0)) pd_15 rfl rfl rfl (by decide) (Nat.le_of_ble_eq_true rfl) (by decide) (by decide) (fun T h3 v3 L3 X q3 => ?_)
  obtain ⟨t3, rfl, gt3, gn3, At3, Kc3⟩ := q3
  have K2 : Keep h0 h3 [] := K1.trans Kc3 (fun x hx => nomatch hx)
  have sz_t3 : h0.size ≤ t3 := Nat.le_trans K1.1 gt3
  show Wp p e below _ (T.setTop (mkF m 21 #[.val (.int c0)] [(.ref t3), (.ref b2), (.ref b2)]))
  refine w_iconst X (0 : Int32) djdk_42_139_21 rfl ?_
  have f3 := (A2.keep Kc3)
  have f4 := ((show Fld Z h2 b2 "java/lang/String" "value" "[B" .null from D2 (Or.inr (wd_29 hw)) (ty := (.array .byte)) (by decide)).keep Kc3 (List.not_mem_nil))
  have f5 := ((show Fld Z h2 b2 "java/lang/String" "coder" "B" (.int (0 : Int32)) from D2 (Or.inr (wd_27 hw)) (ty := .byte) (by decide)).keep Kc3 (List.not_mem_nil))
  refine w_callI X djdk_42_139_22 rfl (wd_41 hw) (wd_42 hw) (wd_3 hw) (wd_43 hw) (by decide) (argsL := [(.ref t3), (.int (0 : Int32))]) (S := [(.ref b2)]) (m_sib hw gn2 f3 f4 f5) pd_16 rfl rfl rfl (by decide) (Nat.le_of_ble_eq_true rfl) (by decide) (by decide) (fun T h4 v4 L4 X q4 => ?_)
  obtain ⟨rfl, Ex4, Cx4, Vx4, Kc4⟩ := q4
  have K6 : Keep h0 h4 [] := K2.trans Kc4 (fun x hx => by cases List.mem_singleton.mp hx; exact (Or.inr sz_b2))
  show Wp p e below _ (T.setTop (mkF m 25 #[.val (.int c0)] [(.ref b2)]))
  have f7 := (At3.keep Kc4 (by simp only [List.mem_cons, List.not_mem_nil, or_false]; exact (Ne.symm (Nat.ne_of_lt (Nat.lt_of_lt_of_le A2.lt gt3)))))
  exact w_retR X rfl (rfl) rfl djdk_42_139_25 ⟨_, _, rfl, sz_b2, gn2, sz_t3, gn3, Ex4, Cx4, Vx4, f7, K6⟩ (by decide) (by decide)
set_option maxRecDepth 65536 in
set_option maxHeartbeats 40000000 in
theorem m_law {l : Launch} {Z : State} {a0 : Array Value} {n0 : Nat} (hw : ∀ d ∈ tables_1, d.before a0 Z = true) (hZs : Z.heap.size = n0) {zc : Int32} {fm : Value} (q0 : Int32) (q1 q2 q3 : Int64) (q4 : Int32) (S_zc : Sta Z Z.heap "java/lang/String" "COMPACT_STRINGS" "Z" (.int zc)) (hzc : ¬ zc = 0) (S_fm : Sta Z Z.heap "jdk/internal/util/Preconditions" "SIOOBE_FORMATTER" "Ljava/util/function/BiFunction;" fm) (hfm : fm.isRef = true) (hheld : ∀ p ∈ consts_1, Jvm.Lit.constHeld Z p.1 p.2) (hcw : Jvm.Lit.compactW.before a0 Z = true) :
    DoesL l Z n0 x code maxLocals ret tables_1 room_1 #[(.int q0), (.long q1), (.long q2), (.long q3), (.int q4)] (fun v _ => v = some (.int 1)) := by
  refine DoesL.start hZs (plainFor_of_name pn_8) ?_
  intro p e s m below meth c T X Y hsZ
  replace X : Sd Z n0 0 code 14 "com/example/bounded_lock/boundedlock/engine/LeaseWithTtlMsPinLaw" "law" (some .boolean) Z.heap p l e room_1 (s.setVm s.vm) m #[(.int q0), (.long q1), (.long q2), (.long q3), (.int q4)] below meth c T [] 0 0 := X
  have hs0 : s.heap.size = n0 := by rw [hsZ]; exact hZs
  have hkp : ∀ (b : Addr) (cl : Cell), Z.heap[b]? = some cl → s.heap[b]? = some cl := by rw [hsZ]; exact fun _ _ q => q
  have I0 : IB Z s.vm [] := by rw [hsZ]; exact IB.start
  refine Wp.cast (g' := mkF m 0 #[.val (.int q0), .val (.long q1), .second, .val (.long q2), .second, .val (.long q3), .second, .val (.int q4), .unset, .unset, .unset, .unset, .unset, .unset] []) (by first | (simp [entryFrame, mkF, argsToLocals, Value.category, maxLocals]; done) | rfl) ?_
  refine w_iconst X (1 : Int32) d_0 rfl ?_
  refine w_newarr X d_1 (wd_0 hw) 1 1 (by decide) (by decide) (by decide) (by decide) (by decide) (by decide) (fun T h1 b1 g1 gn1 X E1 A1 => ?_)
  replace A1 : Ary Z h1 b1 .char [(.int (0 : Int32))] := A1
  refine w_dup X d_3 rfl ?_
  refine w_iconst X (0 : Int32) d_4 rfl ?_
  refine w_iload X d_5 rfl ?_
  refine w_sipush X (255 : Int32) d_7 rfl ?_
  refine w_iand X d_10 ?_
  refine w_i2c X d_11 ?_
  refine w_castore X d_12 A1 (by decide) rfl gn1 (.int ((q4 &&& (255 : Int32)).toUInt32.toUInt16.toUInt32.toInt32)) (congrArg Value.int (own_nar_c _)) [(.int ((q4 &&& (255 : Int32)).toUInt32.toUInt16.toUInt32.toInt32))] rfl (fun T h2 X W2 A2 => ?_)
  refine w_astore X #[.val (.int q0), .val (.long q1), .second, .val (.long q2), .second, .val (.long q3), .second, .val (.int q4), .val (.ref b1), .unset, .unset, .unset, .unset, .unset] d_13 (rfl) rfl ?_
  refine w_new X d_15 (wd_1 hw) (wd_2 hw) (wd_3 hw) (by decide) (by decide) (fun T h3 b3 g3 gn3 X E3 A3 D3 => ?_)
  refine w_dup X d_18 rfl ?_
  refine w_aload X d_19 rfl (rfl) ?_
  have f1 := (A2.ext E3)
  refine w_callI X d_21 rfl (wd_4 hw) (wd_5 hw) (wd_3 hw) (wd_6 hw) (by decide) (argsL := [(.ref b1)]) (S := [(.ref b3)]) (m_si_1 hw S_zc hzc S_fm hfm gn3 A3 (show Fld Z h3 b3 "java/lang/String" "value" "[B" .null from D3 (Or.inr (wd_29 hw)) (ty := (.array .byte)) (by decide)) (show Fld Z h3 b3 "java/lang/String" "coder" "B" (.int (0 : Int32)) from D3 (Or.inr (wd_27 hw)) (ty := .byte) (by decide)) f1 (own_le255 _)) pd_17 rfl rfl rfl (by decide) (Nat.le_of_ble_eq_true rfl) (by decide) (by decide) (fun T h4 v4 L4 X q4 => ?_)
  obtain ⟨rfl, Ex4, Cx4, Kc4, t4, gt4, gn4, Vx4, At4⟩ := q4
  show Wp p e below _ (T.setTop (mkF m 24 #[.val (.int q0), .val (.long q1), .second, .val (.long q2), .second, .val (.long q3), .second, .val (.int q4), .val (.ref b1), .unset, .unset, .unset, .unset, .unset] [(.ref b3)]))
  refine w_astore X #[.val (.int q0), .val (.long q1), .second, .val (.long q2), .second, .val (.long q3), .second, .val (.int q4), .val (.ref b1), .val (.ref b3), .unset, .unset, .unset, .unset] d_24 (rfl) rfl ?_
  refine w_iload X d_26 rfl ?_
  refine w_bipush X (16 : Int32) d_28 rfl ?_
  refine w_iushr X d_30 ?_
  refine w_iconst X (1 : Int32) d_31 rfl ?_
  refine w_iand X d_32 ?_
  refine w_ifeq X d_33 (fun (hc33 : (((q4.toUInt32 >>> ((16 : Int32) &&& 31).toUInt32).toInt32) &&& (1 : Int32)) = (0 : Int32)) => ?_) (fun (hc33 : ¬ (((q4.toUInt32 >>> ((16 : Int32) &&& 31).toUInt32).toInt32) &&& (1 : Int32)) = (0 : Int32)) => ?_)
  · refine w_iload X d_41 rfl ?_
    refine w_bipush X (8 : Int32) d_43 rfl ?_
    refine w_iushr X d_45 ?_
    refine w_sipush X (255 : Int32) d_46 rfl ?_
    refine w_iand X d_49 ?_
    refine w_i2c X d_50 ?_
    refine w_callS X d_51 (wd_30 hw) (wd_31 hw) (wd_3 hw) (wd_32 hw) (by decide) (argsL := [(.int ((((q4.toUInt32 >>> ((8 : Int32) &&& 31).toUInt32).toInt32) &&& (255 : Int32)).toUInt32.toUInt16.toUInt32.toInt32))]) (S := []) (m_vof hw (c0 := ((((q4.toUInt32 >>> ((8 : Int32) &&& 31).toUInt32).toInt32) &&& (255 : Int32)).toUInt32.toUInt16.toUInt32.toInt32)) S_zc hzc S_fm hfm (own_le255 _)) pd_18 rfl rfl rfl (by decide) (Nat.le_of_ble_eq_true rfl) (by decide) (by decide) (fun T h5 v5 L5 X q5 => ?_)
    obtain ⟨a5, t5, rfl, gta5, gna5, gt5, gn5, Ex5, Cx5, Vx5, At5, Kc5⟩ := q5
    show Wp p e below _ (T.setTop (mkF m 54 #[.val (.int q0), .val (.long q1), .second, .val (.long q2), .second, .val (.long q3), .second, .val (.int q4), .val (.ref b1), .val (.ref b3), .unset, .unset, .unset, .unset] [(.ref a5)]))
    refine w_astore X #[.val (.int q0), .val (.long q1), .second, .val (.long q2), .second, .val (.long q3), .second, .val (.int q4), .val (.ref b1), .val (.ref b3), .val (.ref a5), .unset, .unset, .unset] d_54 (rfl) rfl ?_
    refine w_new X d_56 (wd_44 hw) (wd_45 hw) (wd_46 hw) (by decide) (by decide) (fun T h6 b6 g6 gn6 X E6 A6 D6 => ?_)
    refine w_dup X d_59 rfl ?_
    refine v_ldcT X Y d_60 (wd_47 hw) (own_wS hw) hZs hs0 hkp I0 (by decide) (hheld _ (List.mem_of_getElem? (i := 4) rfl)) hcw [(.int (106 : Int32)), (.int (111 : Int32)), (.int (98 : Int32)), (.int (115 : Int32))] (4 : Int32) (by decide) (by decide) (by decide) 16 (by decide) (by decide) (by decide) (by decide) (fun T h7 u kk a7 b7 X Y E7 A7 C7 V7 B7 I7 => ?_)
    have f2 := (A6.ext E7)
    have f3 := ((show Fld Z h6 b6 "com/example/bounded_lock/boundedlock/engine/SemaphoreName" "value" "Ljava/lang/String;" .null from D6 (Or.inr (wd_104 hw)) (ty := (.object "java/lang/String")) (by decide)).ext E7)
    refine v_callI X Y d_62 rfl (wd_50 hw) (wd_51 hw) (wd_46 hw) (wd_52 hw) (by decide) (argsL := [(.ref a7)]) (S := [(.ref b6)]) (m_sn hw S_zc hzc S_fm hfm gn6 f2 f3 A7 C7 V7 B7) pd_19 rfl rfl rfl (by decide) (Nat.le_of_ble_eq_true rfl) (by decide) (by decide) (fun T h8 v8 L8 u kk X Y q8 => ?_)
    obtain ⟨rfl, Kc8⟩ := q8
    show Wp p e below _ (T.setTop (mkF m 65 #[.val (.int q0), .val (.long q1), .second, .val (.long q2), .second, .val (.long q3), .second, .val (.int q4), .val (.ref b1), .val (.ref b3), .val (.ref a5), .unset, .unset, .unset] [(.ref b6)]))
    refine w_astore X #[.val (.int q0), .val (.long q1), .second, .val (.long q2), .second, .val (.long q3), .second, .val (.int q4), .val (.ref b1), .val (.ref b3), .val (.ref a5), .val (.ref b6), .unset, .unset] d_65 (rfl) rfl ?_
    refine w_new X d_67 (wd_105 hw) (wd_106 hw) (wd_107 hw) (by decide) (by decide) (fun T h9 b9 g9 gn9 X E9 A9 D9 => ?_)
    refine w_dup X d_70 rfl ?_
    refine w_aload X d_71 rfl (rfl) ?_
    refine w_aload X d_73 rfl (rfl) ?_
    refine w_iloadN X d_75 rfl ?_
    refine w_lloadN X d_76 rfl ?_
    refine w_aload X d_77 rfl (rfl) ?_
    refine w_lloadN X d_79 rfl ?_
    refine v_callI X Y d_80 rfl (wd_108 hw) (wd_109 hw) (wd_107 hw) (wd_110 hw) (by decide) (argsL := [(.ref b3), (.ref b6), (.int q0), (.long q1), (.ref a5), (.long q2)]) (S := [(.ref b9)]) (m_le hw gn9 A9 (show Fld Z h9 b9 "com/example/bounded_lock/boundedlock/engine/Lease" "id" "Ljava/lang/String;" .null from D9 (Or.inr (wd_117 hw)) (ty := (.object "java/lang/String")) (by decide)) (show Fld Z h9 b9 "com/example/bounded_lock/boundedlock/engine/Lease" "name" "Lcom/example/bounded_lock/boundedlock/engine/SemaphoreName;" .null from D9 (Or.inr (wd_119 hw)) (ty := (.object "com/example/bounded_lock/boundedlock/engine/SemaphoreName")) (by decide)) (show Fld Z h9 b9 "com/example/bounded_lock/boundedlock/engine/Lease" "permits" "I" (.int (0 : Int32)) from D9 (Or.inr (wd_121 hw)) (ty := .int) (by decide)) (show Fld Z h9 b9 "com/example/bounded_lock/boundedlock/engine/Lease" "fence" "J" (.long (0 : Int64)) from D9 (Or.inr (wd_123 hw)) (ty := .long) (by decide)) (show Fld Z h9 b9 "com/example/bounded_lock/boundedlock/engine/Lease" "owner" "Ljava/lang/String;" .null from D9 (Or.inr (wd_125 hw)) (ty := (.object "java/lang/String")) (by decide)) (show Fld Z h9 b9 "com/example/bounded_lock/boundedlock/engine/Lease" "ttlMs" "J" (.long (0 : Int64)) from D9 (Or.inr (wd_127 hw)) (ty := .long) (by decide))) pd_10 rfl rfl rfl (by decide) (Nat.le_of_ble_eq_true rfl) (by decide) (by decide) (fun T h10 v10 L10 u kk X Y q10 => ?_)
    obtain ⟨rfl, Ex10, Fid10, Fname10, Fpermits10, Ffence10, Fowner10, FttlMs10, Kc10⟩ := q10
    show Wp p e below _ (T.setTop (mkF m 83 #[.val (.int q0), .val (.long q1), .second, .val (.long q2), .second, .val (.long q3), .second, .val (.int q4), .val (.ref b1), .val (.ref b3), .val (.ref a5), .val (.ref b6), .unset, .unset] [(.ref b9)]))
    refine w_astore X #[.val (.int q0), .val (.long q1), .second, .val (.long q2), .second, .val (.long q3), .second, .val (.int q4), .val (.ref b1), .val (.ref b3), .val (.ref a5), .val (.ref b6), .val (.ref b9), .unset] d_83 (rfl) rfl ?_
    refine w_aload X d_85 rfl (rfl) ?_
    refine w_lload X d_87 rfl ?_
    refine v_callV X Y d_89 (wd_128 hw) (wd_129 hw) (notFace_of_selects (args := #[]) (mvT X.hZ (wd_131 hw))) (wd_131 hw) (wd_130 hw) (wd_107 hw) (wd_132 hw) (by decide) Ex10 (argsL := [(.long q3)]) (S := []) (m_wt hw (r6 := q3) Ex10 Fid10 Fname10 Fpermits10 Ffence10 Fowner10 FttlMs10) pd_20 rfl rfl rfl (by decide) (Nat.le_of_ble_eq_true rfl) (by decide) (by decide) (fun T h11 v11 L11 u kk X Y q11 => ?_)
    obtain ⟨r11, rfl, gt11, gn11, Ex11, Fid11, Fname11, Fpermits11, Ffence11, Fowner11, FttlMs11, Kc11⟩ := q11
    show Wp p e below _ (T.setTop (mkF m 92 #[.val (.int q0), .val (.long q1), .second, .val (.long q2), .second, .val (.long q3), .second, .val (.int q4), .val (.ref b1), .val (.ref b3), .val (.ref a5), .val (.ref b6), .val (.ref b9), .unset] [(.ref r11)]))
    refine w_astore X #[.val (.int q0), .val (.long q1), .second, .val (.long q2), .second, .val (.long q3), .second, .val (.int q4), .val (.ref b1), .val (.ref b3), .val (.ref a5), .val (.ref b6), .val (.ref b9), .val (.ref r11)] d_92 (rfl) rfl ?_
    refine w_aload X d_94 rfl (rfl) ?_
    refine w_ifnonnullT X d_96 ?_
    refine w_aload X d_101 rfl (rfl) ?_
    refine w_callV X d_103 (wd_135 hw) (wd_136 hw) (notFace_of_selects (args := #[]) (mvT X.hZ (wd_138 hw))) (wd_138 hw) (wd_137 hw) (wd_107 hw) (wd_139 hw) (by decide) Ex11 (argsL := []) (S := []) (m_g_id hw Fid11) pd_21 rfl rfl rfl (by decide) (Nat.le_of_ble_eq_true rfl) (by decide) (by decide) (fun T h12 v12 L12 X q12 => ?_)
    obtain ⟨rfl, rfl⟩ := q12
    show Wp p e below _ (T.setTop (mkF m 106 #[.val (.int q0), .val (.long q1), .second, .val (.long q2), .second, .val (.long q3), .second, .val (.int q4), .val (.ref b1), .val (.ref b3), .val (.ref a5), .val (.ref b6), .val (.ref b9), .val (.ref r11)] [(.ref b3)]))
    refine w_aload X d_106 rfl (rfl) ?_
    refine w_acmpne X (rfl) (rfl) d_108 (fun hc => absurd rfl hc) (fun _ => ?_)
    refine w_aload X d_111 rfl (rfl) ?_
    refine w_callV X d_113 (wd_140 hw) (wd_141 hw) (notFace_of_selects (args := #[]) (mvT X.hZ (wd_143 hw))) (wd_143 hw) (wd_142 hw) (wd_107 hw) (wd_144 hw) (by decide) Ex11 (argsL := []) (S := []) (m_g_name hw Fname11) pd_22 rfl rfl rfl (by decide) (Nat.le_of_ble_eq_true rfl) (by decide) (by decide) (fun T h13 v13 L13 X q13 => ?_)
    obtain ⟨rfl, rfl⟩ := q13
    show Wp p e below _ (T.setTop (mkF m 116 #[.val (.int q0), .val (.long q1), .second, .val (.long q2), .second, .val (.long q3), .second, .val (.int q4), .val (.ref b1), .val (.ref b3), .val (.ref a5), .val (.ref b6), .val (.ref b9), .val (.ref r11)] [(.ref b6)]))
    refine w_aload X d_116 rfl (rfl) ?_
    refine w_acmpne X (rfl) (rfl) d_118 (fun hc => absurd rfl hc) (fun _ => ?_)
    refine w_aload X d_121 rfl (rfl) ?_
    refine w_callV X d_123 (wd_145 hw) (wd_146 hw) (notFace_of_selects (args := #[]) (mvT X.hZ (wd_148 hw))) (wd_148 hw) (wd_147 hw) (wd_107 hw) (wd_149 hw) (by decide) Ex11 (argsL := []) (S := []) (m_g_permits hw Fpermits11) pd_7 rfl rfl rfl (by decide) (Nat.le_of_ble_eq_true rfl) (by decide) (by decide) (fun T h14 v14 L14 X q14 => ?_)
    obtain ⟨rfl, rfl⟩ := q14
    show Wp p e below _ (T.setTop (mkF m 126 #[.val (.int q0), .val (.long q1), .second, .val (.long q2), .second, .val (.long q3), .second, .val (.int q4), .val (.ref b1), .val (.ref b3), .val (.ref a5), .val (.ref b6), .val (.ref b9), .val (.ref r11)] [(.int q0)]))
    refine w_iloadN X d_126 rfl ?_
    refine w_icmpne X d_127 (fun hc => absurd rfl hc) (fun _ => ?_)
    refine w_aload X d_130 rfl (rfl) ?_
    refine w_callV X d_132 (wd_150 hw) (wd_151 hw) (notFace_of_selects (args := #[]) (mvT X.hZ (wd_153 hw))) (wd_153 hw) (wd_152 hw) (wd_107 hw) (wd_154 hw) (by decide) Ex11 (argsL := []) (S := []) (m_g_fence hw Ffence11) pd_23 rfl rfl rfl (by decide) (Nat.le_of_ble_eq_true rfl) (by decide) (by decide) (fun T h15 v15 L15 X q15 => ?_)
    obtain ⟨rfl, rfl⟩ := q15
    show Wp p e below _ (T.setTop (mkF m 135 #[.val (.int q0), .val (.long q1), .second, .val (.long q2), .second, .val (.long q3), .second, .val (.int q4), .val (.ref b1), .val (.ref b3), .val (.ref a5), .val (.ref b6), .val (.ref b9), .val (.ref r11)] [(.long q1)]))
    refine w_lloadN X d_135 rfl ?_
    refine w_lne X d_136 d_137 (fun hc => absurd rfl hc) (fun _ => ?_)
    refine w_aload X d_140 rfl (rfl) ?_
    refine w_callV X d_142 (wd_155 hw) (wd_156 hw) (notFace_of_selects (args := #[]) (mvT X.hZ (wd_158 hw))) (wd_158 hw) (wd_157 hw) (wd_107 hw) (wd_159 hw) (by decide) Ex11 (argsL := []) (S := []) (m_g_owner hw Fowner11) pd_21 rfl rfl rfl (by decide) (Nat.le_of_ble_eq_true rfl) (by decide) (by decide) (fun T h16 v16 L16 X q16 => ?_)
    obtain ⟨rfl, rfl⟩ := q16
    show Wp p e below _ (T.setTop (mkF m 145 #[.val (.int q0), .val (.long q1), .second, .val (.long q2), .second, .val (.long q3), .second, .val (.int q4), .val (.ref b1), .val (.ref b3), .val (.ref a5), .val (.ref b6), .val (.ref b9), .val (.ref r11)] [(.ref a5)]))
    refine w_aload X d_145 rfl (rfl) ?_
    refine w_acmpne X (rfl) (rfl) d_147 (fun hc => absurd rfl hc) (fun _ => ?_)
    refine w_aload X d_150 rfl (rfl) ?_
    refine w_callV X d_152 (wd_160 hw) (wd_161 hw) (notFace_of_selects (args := #[]) (mvT X.hZ (wd_163 hw))) (wd_163 hw) (wd_162 hw) (wd_107 hw) (wd_164 hw) (by decide) Ex11 (argsL := []) (S := []) (m_g_ttlMs hw FttlMs11) pd_23 rfl rfl rfl (by decide) (Nat.le_of_ble_eq_true rfl) (by decide) (by decide) (fun T h17 v17 L17 X q17 => ?_)
    obtain ⟨rfl, rfl⟩ := q17
    show Wp p e below _ (T.setTop (mkF m 155 #[.val (.int q0), .val (.long q1), .second, .val (.long q2), .second, .val (.long q3), .second, .val (.int q4), .val (.ref b1), .val (.ref b3), .val (.ref a5), .val (.ref b6), .val (.ref b9), .val (.ref r11)] [(.long q3)]))
    refine w_lload X d_155 rfl ?_
    refine w_lne X d_157 d_158 (fun hc => absurd rfl hc) (fun _ => ?_)
    refine w_aload X d_161 rfl (rfl) ?_
    have f4 := (FttlMs10.keep Kc11 (List.not_mem_nil))
    have f5 := (Ex10.keep Kc11)
    refine w_callV X d_163 (wd_160 hw) (wd_161 hw) (notFace_of_selects (args := #[]) (mvT X.hZ (wd_163 hw))) (wd_163 hw) (wd_162 hw) (wd_107 hw) (wd_164 hw) (by decide) f5 (argsL := []) (S := []) (m_g_ttlMs hw f4) pd_23 rfl rfl rfl (by decide) (Nat.le_of_ble_eq_true rfl) (by decide) (by decide) (fun T h18 v18 L18 X q18 => ?_)
    obtain ⟨rfl, rfl⟩ := q18
    show Wp p e below _ (T.setTop (mkF m 166 #[.val (.int q0), .val (.long q1), .second, .val (.long q2), .second, .val (.long q3), .second, .val (.int q4), .val (.ref b1), .val (.ref b3), .val (.ref a5), .val (.ref b6), .val (.ref b9), .val (.ref r11)] [(.long q2)]))
    refine w_lloadN X d_166 rfl ?_
    refine w_lne X d_167 d_168 (fun hc => absurd rfl hc) (fun _ => ?_)
    refine w_iconst X (1 : Int32) d_171 rfl ?_
    refine w_goto X d_172 ?_
    exact v_ret_boolean X Y (1 : Int32) (by decide) d_176 rfl (by decide) (by decide)
  · refine v_ldcT X Y d_36 (wd_165 hw) (own_wS hw) hZs hs0 hkp I0 (by decide) (hheld _ (List.mem_of_getElem? (i := 3) rfl)) hcw [] (0 : Int32) (by decide) (by decide) (by decide) 0 (by decide) (by decide) (by decide) (by decide) (fun T h19 u kk a19 b19 X Y E19 A19 C19 V19 B19 I19 => ?_)
    refine w_goto X d_38 ?_
    refine w_astore X #[.val (.int q0), .val (.long q1), .second, .val (.long q2), .second, .val (.long q3), .second, .val (.int q4), .val (.ref b1), .val (.ref b3), .val (.ref a19), .unset, .unset, .unset] d_54 (rfl) rfl ?_
    refine w_new X d_56 (wd_44 hw) (wd_45 hw) (wd_46 hw) (by decide) (by decide) (fun T h20 b20 g20 gn20 X E20 A20 D20 => ?_)
    refine w_dup X d_59 rfl ?_
    refine v_ldcT X Y d_60 (wd_47 hw) (own_wS hw) hZs hs0 hkp I19 (by decide) (hheld _ (List.mem_of_getElem? (i := 4) rfl)) hcw [(.int (106 : Int32)), (.int (111 : Int32)), (.int (98 : Int32)), (.int (115 : Int32))] (4 : Int32) (by decide) (by decide) (by decide) 16 (by decide) (by decide) (by decide) (by decide) (fun T h21 u kk a21 b21 X Y E21 A21 C21 V21 B21 I21 => ?_)
    have f6 := (A20.ext E21)
    have f7 := ((show Fld Z h20 b20 "com/example/bounded_lock/boundedlock/engine/SemaphoreName" "value" "Ljava/lang/String;" .null from D20 (Or.inr (wd_104 hw)) (ty := (.object "java/lang/String")) (by decide)).ext E21)
    refine v_callI X Y d_62 rfl (wd_50 hw) (wd_51 hw) (wd_46 hw) (wd_52 hw) (by decide) (argsL := [(.ref a21)]) (S := [(.ref b20)]) (m_sn hw S_zc hzc S_fm hfm gn20 f6 f7 A21 C21 V21 B21) pd_19 rfl rfl rfl (by decide) (Nat.le_of_ble_eq_true rfl) (by decide) (by decide) (fun T h22 v22 L22 u kk X Y q22 => ?_)
    obtain ⟨rfl, Kc22⟩ := q22
    show Wp p e below _ (T.setTop (mkF m 65 #[.val (.int q0), .val (.long q1), .second, .val (.long q2), .second, .val (.long q3), .second, .val (.int q4), .val (.ref b1), .val (.ref b3), .val (.ref a19), .unset, .unset, .unset] [(.ref b20)]))
    refine w_astore X #[.val (.int q0), .val (.long q1), .second, .val (.long q2), .second, .val (.long q3), .second, .val (.int q4), .val (.ref b1), .val (.ref b3), .val (.ref a19), .val (.ref b20), .unset, .unset] d_65 (rfl) rfl ?_
    refine w_new X d_67 (wd_105 hw) (wd_106 hw) (wd_107 hw) (by decide) (by decide) (fun T h23 b23 g23 gn23 X E23 A23 D23 => ?_)
    refine w_dup X d_70 rfl ?_
    refine w_aload X d_71 rfl (rfl) ?_
    refine w_aload X d_73 rfl (rfl) ?_
    refine w_iloadN X d_75 rfl ?_
    refine w_lloadN X d_76 rfl ?_
    refine w_aload X d_77 rfl (rfl) ?_
    refine w_lloadN X d_79 rfl ?_
    refine v_callI X Y d_80 rfl (wd_108 hw) (wd_109 hw) (wd_107 hw) (wd_110 hw) (by decide) (argsL := [(.ref b3), (.ref b20), (.int q0), (.long q1), (.ref a19), (.long q2)]) (S := [(.ref b23)]) (m_le hw gn23 A23 (show Fld Z h23 b23 "com/example/bounded_lock/boundedlock/engine/Lease" "id" "Ljava/lang/String;" .null from D23 (Or.inr (wd_117 hw)) (ty := (.object "java/lang/String")) (by decide)) (show Fld Z h23 b23 "com/example/bounded_lock/boundedlock/engine/Lease" "name" "Lcom/example/bounded_lock/boundedlock/engine/SemaphoreName;" .null from D23 (Or.inr (wd_119 hw)) (ty := (.object "com/example/bounded_lock/boundedlock/engine/SemaphoreName")) (by decide)) (show Fld Z h23 b23 "com/example/bounded_lock/boundedlock/engine/Lease" "permits" "I" (.int (0 : Int32)) from D23 (Or.inr (wd_121 hw)) (ty := .int) (by decide)) (show Fld Z h23 b23 "com/example/bounded_lock/boundedlock/engine/Lease" "fence" "J" (.long (0 : Int64)) from D23 (Or.inr (wd_123 hw)) (ty := .long) (by decide)) (show Fld Z h23 b23 "com/example/bounded_lock/boundedlock/engine/Lease" "owner" "Ljava/lang/String;" .null from D23 (Or.inr (wd_125 hw)) (ty := (.object "java/lang/String")) (by decide)) (show Fld Z h23 b23 "com/example/bounded_lock/boundedlock/engine/Lease" "ttlMs" "J" (.long (0 : Int64)) from D23 (Or.inr (wd_127 hw)) (ty := .long) (by decide))) pd_10 rfl rfl rfl (by decide) (Nat.le_of_ble_eq_true rfl) (by decide) (by decide) (fun T h24 v24 L24 u kk X Y q24 => ?_)
    obtain ⟨rfl, Ex24, Fid24, Fname24, Fpermits24, Ffence24, Fowner24, FttlMs24, Kc24⟩ := q24
    show Wp p e below _ (T.setTop (mkF m 83 #[.val (.int q0), .val (.long q1), .second, .val (.long q2), .second, .val (.long q3), .second, .val (.int q4), .val (.ref b1), .val (.ref b3), .val (.ref a19), .val (.ref b20), .unset, .unset] [(.ref b23)]))
    refine w_astore X #[.val (.int q0), .val (.long q1), .second, .val (.long q2), .second, .val (.long q3), .second, .val (.int q4), .val (.ref b1), .val (.ref b3), .val (.ref a19), .val (.ref b20), .val (.ref b23), .unset] d_83 (rfl) rfl ?_
    refine w_aload X d_85 rfl (rfl) ?_
    refine w_lload X d_87 rfl ?_
    refine v_callV X Y d_89 (wd_128 hw) (wd_129 hw) (notFace_of_selects (args := #[]) (mvT X.hZ (wd_131 hw))) (wd_131 hw) (wd_130 hw) (wd_107 hw) (wd_132 hw) (by decide) Ex24 (argsL := [(.long q3)]) (S := []) (m_wt hw (r6 := q3) Ex24 Fid24 Fname24 Fpermits24 Ffence24 Fowner24 FttlMs24) pd_20 rfl rfl rfl (by decide) (Nat.le_of_ble_eq_true rfl) (by decide) (by decide) (fun T h25 v25 L25 u kk X Y q25 => ?_)
    obtain ⟨r25, rfl, gt25, gn25, Ex25, Fid25, Fname25, Fpermits25, Ffence25, Fowner25, FttlMs25, Kc25⟩ := q25
    show Wp p e below _ (T.setTop (mkF m 92 #[.val (.int q0), .val (.long q1), .second, .val (.long q2), .second, .val (.long q3), .second, .val (.int q4), .val (.ref b1), .val (.ref b3), .val (.ref a19), .val (.ref b20), .val (.ref b23), .unset] [(.ref r25)]))
    refine w_astore X #[.val (.int q0), .val (.long q1), .second, .val (.long q2), .second, .val (.long q3), .second, .val (.int q4), .val (.ref b1), .val (.ref b3), .val (.ref a19), .val (.ref b20), .val (.ref b23), .val (.ref r25)] d_92 (rfl) rfl ?_
    refine w_aload X d_94 rfl (rfl) ?_
    refine w_ifnonnullT X d_96 ?_
    refine w_aload X d_101 rfl (rfl) ?_
    refine w_callV X d_103 (wd_135 hw) (wd_136 hw) (notFace_of_selects (args := #[]) (mvT X.hZ (wd_138 hw))) (wd_138 hw) (wd_137 hw) (wd_107 hw) (wd_139 hw) (by decide) Ex25 (argsL := []) (S := []) (m_g_id hw Fid25) pd_21 rfl rfl rfl (by decide) (Nat.le_of_ble_eq_true rfl) (by decide) (by decide) (fun T h26 v26 L26 X q26 => ?_)
    obtain ⟨rfl, rfl⟩ := q26
    show Wp p e below _ (T.setTop (mkF m 106 #[.val (.int q0), .val (.long q1), .second, .val (.long q2), .second, .val (.long q3), .second, .val (.int q4), .val (.ref b1), .val (.ref b3), .val (.ref a19), .val (.ref b20), .val (.ref b23), .val (.ref r25)] [(.ref b3)]))
    refine w_aload X d_106 rfl (rfl) ?_
    refine w_acmpne X (rfl) (rfl) d_108 (fun hc => absurd rfl hc) (fun _ => ?_)
    refine w_aload X d_111 rfl (rfl) ?_
    refine w_callV X d_113 (wd_140 hw) (wd_141 hw) (notFace_of_selects (args := #[]) (mvT X.hZ (wd_143 hw))) (wd_143 hw) (wd_142 hw) (wd_107 hw) (wd_144 hw) (by decide) Ex25 (argsL := []) (S := []) (m_g_name hw Fname25) pd_22 rfl rfl rfl (by decide) (Nat.le_of_ble_eq_true rfl) (by decide) (by decide) (fun T h27 v27 L27 X q27 => ?_)
    obtain ⟨rfl, rfl⟩ := q27
    show Wp p e below _ (T.setTop (mkF m 116 #[.val (.int q0), .val (.long q1), .second, .val (.long q2), .second, .val (.long q3), .second, .val (.int q4), .val (.ref b1), .val (.ref b3), .val (.ref a19), .val (.ref b20), .val (.ref b23), .val (.ref r25)] [(.ref b20)]))
    refine w_aload X d_116 rfl (rfl) ?_
    refine w_acmpne X (rfl) (rfl) d_118 (fun hc => absurd rfl hc) (fun _ => ?_)
    refine w_aload X d_121 rfl (rfl) ?_
    refine w_callV X d_123 (wd_145 hw) (wd_146 hw) (notFace_of_selects (args := #[]) (mvT X.hZ (wd_148 hw))) (wd_148 hw) (wd_147 hw) (wd_107 hw) (wd_149 hw) (by decide) Ex25 (argsL := []) (S := []) (m_g_permits hw Fpermits25) pd_7 rfl rfl rfl (by decide) (Nat.le_of_ble_eq_true rfl) (by decide) (by decide) (fun T h28 v28 L28 X q28 => ?_)
    obtain ⟨rfl, rfl⟩ := q28
    show Wp p e below _ (T.setTop (mkF m 126 #[.val (.int q0), .val (.long q1), .second, .val (.long q2), .second, .val (.long q3), .second, .val (.int q4), .val (.ref b1), .val (.ref b3), .val (.ref a19), .val (.ref b20), .val (.ref b23), .val (.ref r25)] [(.int q0)]))
    refine w_iloadN X d_126 rfl ?_
    refine w_icmpne X d_127 (fun hc => absurd rfl hc) (fun _ => ?_)
    refine w_aload X d_130 rfl (rfl) ?_
    refine w_callV X d_132 (wd_150 hw) (wd_151 hw) (notFace_of_selects (args := #[]) (mvT X.hZ (wd_153 hw))) (wd_153 hw) (wd_152 hw) (wd_107 hw) (wd_154 hw) (by decide) Ex25 (argsL := []) (S := []) (m_g_fence hw Ffence25) pd_23 rfl rfl rfl (by decide) (Nat.le_of_ble_eq_true rfl) (by decide) (by decide) (fun T h29 v29 L29 X q29 => ?_)
    obtain ⟨rfl, rfl⟩ := q29
    show Wp p e below _ (T.setTop (mkF m 135 #[.val (.int q0), .val (.long q1), .second, .val (.long q2), .second, .val (.long q3), .second, .val (.int q4), .val (.ref b1), .val (.ref b3), .val (.ref a19), .val (.ref b20), .val (.ref b23), .val (.ref r25)] [(.long q1)]))
    refine w_lloadN X d_135 rfl ?_
    refine w_lne X d_136 d_137 (fun hc => absurd rfl hc) (fun _ => ?_)
    refine w_aload X d_140 rfl (rfl) ?_
    refine w_callV X d_142 (wd_155 hw) (wd_156 hw) (notFace_of_selects (args := #[]) (mvT X.hZ (wd_158 hw))) (wd_158 hw) (wd_157 hw) (wd_107 hw) (wd_159 hw) (by decide) Ex25 (argsL := []) (S := []) (m_g_owner hw Fowner25) pd_21 rfl rfl rfl (by decide) (Nat.le_of_ble_eq_true rfl) (by decide) (by decide) (fun T h30 v30 L30 X q30 => ?_)
    obtain ⟨rfl, rfl⟩ := q30
    show Wp p e below _ (T.setTop (mkF m 145 #[.val (.int q0), .val (.long q1), .second, .val (.long q2), .second, .val (.long q3), .second, .val (.int q4), .val (.ref b1), .val (.ref b3), .val (.ref a19), .val (.ref b20), .val (.ref b23), .val (.ref r25)] [(.ref a19)]))
    refine w_aload X d_145 rfl (rfl) ?_
    refine w_acmpne X (rfl) (rfl) d_147 (fun hc => absurd rfl hc) (fun _ => ?_)
    refine w_aload X d_150 rfl (rfl) ?_
    refine w_callV X d_152 (wd_160 hw) (wd_161 hw) (notFace_of_selects (args := #[]) (mvT X.hZ (wd_163 hw))) (wd_163 hw) (wd_162 hw) (wd_107 hw) (wd_164 hw) (by decide) Ex25 (argsL := []) (S := []) (m_g_ttlMs hw FttlMs25) pd_23 rfl rfl rfl (by decide) (Nat.le_of_ble_eq_true rfl) (by decide) (by decide) (fun T h31 v31 L31 X q31 => ?_)
    obtain ⟨rfl, rfl⟩ := q31
    show Wp p e below _ (T.setTop (mkF m 155 #[.val (.int q0), .val (.long q1), .second, .val (.long q2), .second, .val (.long q3), .second, .val (.int q4), .val (.ref b1), .val (.ref b3), .val (.ref a19), .val (.ref b20), .val (.ref b23), .val (.ref r25)] [(.long q3)]))
    refine w_lload X d_155 rfl ?_
    refine w_lne X d_157 d_158 (fun hc => absurd rfl hc) (fun _ => ?_)
    refine w_aload X d_161 rfl (rfl) ?_
    have f8 := (FttlMs24.keep Kc25 (List.not_mem_nil))
    have f9 := (Ex24.keep Kc25)
    refine w_callV X d_163 (wd_160 hw) (wd_161 hw) (notFace_of_selects (args := #[]) (mvT X.hZ (wd_163 hw))) (wd_163 hw) (wd_162 hw) (wd_107 hw) (wd_164 hw) (by decide) f9 (argsL := []) (S := []) (m_g_ttlMs hw f8) pd_23 rfl rfl rfl (by decide) (Nat.le_of_ble_eq_true rfl) (by decide) (by decide) (fun T h32 v32 L32 X q32 => ?_)
    obtain ⟨rfl, rfl⟩ := q32
    show Wp p e below _ (T.setTop (mkF m 166 #[.val (.int q0), .val (.long q1), .second, .val (.long q2), .second, .val (.long q3), .second, .val (.int q4), .val (.ref b1), .val (.ref b3), .val (.ref a19), .val (.ref b20), .val (.ref b23), .val (.ref r25)] [(.long q2)]))
    refine w_lloadN X d_166 rfl ?_
    refine w_lne X d_167 d_168 (fun hc => absurd rfl hc) (fun _ => ?_)
    refine w_iconst X (1 : Int32) d_171 rfl ?_
    refine w_goto X d_172 ?_
    exact v_ret_boolean X Y (1 : Int32) (by decide) d_176 rfl (by decide) (by decide)
set_option maxRecDepth 65536 in
set_option maxHeartbeats 40000000 in
theorem comes_1 {Post : Tables → Env → Array Value → State → Outcome → State → Prop} (hpost : ∀ tb e args s v u, (limb_1_1.after args s (.returned v) u = true ∧ limb_1_2.after args s (.returned v) u = true ∧ True) → ReturnedEndW s (.returned v) u (Jvm.fieldLocs frame_1_writes args s ++ Jvm.arrayLocs frame_1_arrays args s ++ Jvm.staticLocs frame_1_statics s) 40 6336 → Post tb e args s (.returned v) u) :
    ArmFor flags0 classFile x code maxLocals ret World_1 tables_1 room_1 Calls_1 rest_1 Pre_1 Post := by
  intro l hfl _ _ p e ha hc hk s m args below hf hA hF happ hP
  obtain ⟨hcalls, hrest, hpre⟩ := hP
  obtain ⟨-, -, -, hnamed, -, -, -, hat⟩ := (Spec.applies_iff hf).mp happ
  obtain ⟨hg, hn⟩ := and_e (Cond.before_iff.mp (show (Jvm.Cond.and given_1 narrow_1).before args s = true from hpre))
  obtain ⟨hcount, hg1⟩ := and_e hg
  obtain ⟨ha0, hg2⟩ := and_e hg1
  obtain ⟨ha1, hg3⟩ := and_e hg2
  obtain ⟨ha2, hg4⟩ := and_e hg3
  obtain ⟨ha3, hg5⟩ := and_e hg4
  have ha4 := hg5
  obtain ⟨w0, w1, w2, w3, w4, rfl⟩ : ∃ w0 w1 w2 w3 w4 : Value, args = #[w0, w1, w2, w3, w4] := by
    have hs : args.size = 5 := by simpa [Cond.value, given_1] using hcount
    obtain ⟨L⟩ := args
    match L, hs with
    | [w0, w1, w2, w3, w4], _ => exact ⟨w0, w1, w2, w3, w4, rfl⟩
  have hw := fun d (hd : d ∈ tables_1) => atoms_spec (ws := Jvm.Cond.code x code maxLocals ret :: tables_1) hat d (List.mem_cons_of_mem _ hd)
  have hfit : Fit s := fun {y c} hc i hi => by
    obtain ⟨ha, rfl⟩ := Array.getElem?_eq_some_iff.mp hc
    have q := List.all_eq_true.mp ((Array.all_eq_true_iff_forall_mem.mp hF) _ (Array.getElem_mem ha)) i (List.mem_range.mpr hi)
    simpa [Array.getElem?_eq_getElem hi] using q
  obtain ⟨hsets, hown0⟩ := atoms_of _ (rest_1_c_eq ▸ (show rest_1_c.before _ s = true from hrest))
  have hr0 := Cond.before_iff.mp hown0
  obtain ⟨i0, ei0⟩ := is_v ha0
  obtain rfl : w0 = (.int i0) := Option.some.inj ei0
  obtain ⟨i1, ei1⟩ := isL_v ha1
  obtain rfl : w1 = (.long i1) := Option.some.inj ei1
  obtain ⟨i2, ei2⟩ := isL_v ha2
  obtain rfl : w2 = (.long i2) := Option.some.inj ei2
  obtain ⟨i3, ei3⟩ := isL_v ha3
  obtain rfl : w3 = (.long i3) := Option.some.inj ei3
  obtain ⟨i4, ei4⟩ := is_v ha4
  obtain rfl : w4 = (.int i4) := Option.some.inj ei4
  obtain ⟨zc, ezc⟩ := is_v (Cond.before_iff.mp (hsets _ (List.mem_of_getElem? (i := 1) rfl)))
  have S_zc : Sta s s.heap "java/lang/String" "COMPACT_STRINGS" "Z" (.int zc) := Sta.start ezc (Or.inl (hsets _ (List.mem_of_getElem? (i := 0) rfl)))
  have hcw : Jvm.Lit.compactW.before _ s = true := (hsets _ (List.mem_of_getElem? (i := 2) rfl))
  have hzc : ¬ zc = 0 := gotF (own_eqI ezc rfl) (not_v (Cond.before_iff.mp hcw))
  obtain ⟨fm, efm, hfm⟩ := isR_v (Cond.before_iff.mp (hsets _ (List.mem_of_getElem? (i := 8) rfl)))
  have S_fm : Sta s s.heap "jdk/internal/util/Preconditions" "SIOOBE_FORMATTER" "Ljava/util/function/BiFunction;" fm := Sta.start efm (Or.inl (hsets _ (List.mem_of_getElem? (i := 7) rfl)))
  obtain ⟨n, o, h1, h2, h3, v, L, rfl, ⟨N, -, -, rfl⟩, hq⟩ := m_law (l := l) (Z := s) (n0 := s.heap.size) hw rfl i0 i1 i2 i3 i4 S_zc hzc S_fm hfm (fun p hp => hcalls.1 p hp) hcw p e ha hc hk s m _ below hf ((Spec.applies_iff_loose hf).mp happ).1 ⟨rfl, rfl⟩ trivial
  refine ⟨n, _, h1, h2, h3, hpost _ _ _ _ _ _ ⟨Cond.after_iff.mpr rfl, Cond.after_iff.mpr (eq_i res_at (Term.int_eval (1)) rfl), trivial⟩ ⟨hq.1, hq.2.1, hq.2.2.1, (hq.2.2.2.sift fun y hy => Or.inr (N y hy)).mono (by decide) (by decide)⟩⟩
theorem main_1_1 : Claimed_1_1 := comes_1 fun _ _ _ _ _ _ h hF => ⟨h.1, hF⟩
theorem main_1_2 : Claimed_1_2 := comes_1 fun _ _ _ _ _ _ h hF => ⟨h.2.1, hF⟩
end Jvm.Pilot.@@N@@
namespace Jvm.Pilot.@@N@@
open Jvm Jvm.ClassFile Sem Op Lib Jvm.Free Jvm.Stand Jvm.Pilot.@@N@@.Jvm.D
/-! MADE BY PROGRAM (witnessworld.py) out of the Statement's table words and the real class files: 23 classes; the members and pool entries that the words name. The judged class is class 1, her method 1. -/
namespace start1
open Jvm.ClassFile
def u (s : String) : CpInfo := .utf8 (stringToUtf16 s)
/-- a pool by its gaps: so many unusable entries, then the entry; so many at the end -/
def gap : Nat → List CpInfo → List CpInfo
  | 0, r => r
  | n + 1, r => .unusable :: gap n r
def poolList (es : List (Nat × CpInfo)) (last : Nat) : List CpInfo := es.foldr (fun e r => gap e.1 (e.2 :: r)) (gap last [])
def pool (es : List (Nat × CpInfo)) (last : Nat) : Array CpInfo := ⟨poolList es last⟩
def fileOf (pool : Array CpInfo) (this : Nat) (attrs : Array Attribute := #[]) (ms : Array MethodInfo := #[]) (fl : Nat := 33) (sup : Nat := 0) (ifs : Array Nat := #[]) (fds : Array FieldInfo := #[]) : ClassFile where
  minorVersion := 0
  majorVersion := 65
  constantPool := pool
  accessFlags := fl
  thisClass := this
  superClass := sup
  interfaces := ifs
  fields := fds
  methods := ms
  attributes := attrs
def plain (name : String) (sup : Option ClassId) : Class where
  name := name
  kind := .ordinary
  loader := none
  accessFlags := 33
  super := sup
  interfaces := #[]
  cf := none
  fields := #[]
  methods := #[]
  instanceTypes := #[]
  staticTypes := #[]
  resolved := #[]
  callSites := []
  init := .initialized
  statics := none
  mirror := none

def pool0 : Array CpInfo := pool [(5, u "<init>"), (0, u "()V"), (1, .class_ 10), (1, u "java/lang/Object")] 113

def k0c0 : Code := { maxStack := 0, maxLocals := 1, code := object_method_1_code, exceptionTable := #[], attributes := #[] }
def k0m0 : Method := { name := "<init>", desc := "()V", sig := { parameters := [], returnType := none }, accessFlags := 1, code := some k0c0 }
/-- java/lang/Object -/
def k0 : Class := { plain "java/lang/Object" none with
  accessFlags := 33
  interfaces := #[]
  cf := some (fileOf pool0 8 #[] #[{ accessFlags := 1, nameIndex := 5, descriptorIndex := 6, attributes := #[] }] 33 0 #[] #[])
  fields := #[]
  methods := #[k0m0]
  instanceTypes := #[]
  staticTypes := #[]
  resolved := Array.replicate 124 none
  statics := none }

def pool1 : Array CpInfo := pool [(2, .class_ 4), (1, u "java/lang/Object"), (0, u "<init>"), (0, u "()V"), (0, .class_ 8), (0, u "java/lang/String"), (0, .methodref 7 10), (0, .nameAndType 5 11), (0, u "([C)V"), (0, .string 13), (0, u ""), (0, .methodref 7 15), (0, .nameAndType 16 17), (0, u "valueOf"), (0, u "(C)Ljava/lang/String;"), (0, .class_ 19), (0, u "com/example/bounded_lock/boundedlock/engine/SemaphoreName"), (0, .string 21), (0, u "jobs"), (0, .methodref 18 23), (0, .nameAndType 5 24), (0, u "(Ljava/lang/String;)V"), (0, .class_ 26), (0, u "com/example/bounded_lock/boundedlock/engine/Lease"), (0, .methodref 25 28), (0, .nameAndType 5 29), (0, u "(Ljava/lang/String;Lcom/example/bounded_lock/boundedlock/engine/SemaphoreName;IJLjava/lang/String;J)V"), (0, .methodref 25 31), (0, .nameAndType 32 33), (0, u "withTtlMs"), (0, u "(J)Lcom/example/bounded_lock/boundedlock/engine/Lease;"), (0, .methodref 25 35), (0, .nameAndType 36 37), (0, u "id"), (0, u "()Ljava/lang/String;"), (0, .methodref 25 39), (0, .nameAndType 40 41), (0, u "name"), (0, u "()Lcom/example/bounded_lock/boundedlock/engine/SemaphoreName;"), (0, .methodref 25 43), (0, .nameAndType 44 45), (0, u "permits"), (0, u "()I"), (0, .methodref 25 47), (0, .nameAndType 48 49), (0, u "fence"), (0, u "()J"), (0, .methodref 25 51), (0, .nameAndType 52 37), (0, u "owner"), (0, .methodref 25 54), (0, .nameAndType 55 49), (0, u "ttlMs"), (0, .class_ 57), (0, u "com/example/bounded_lock/boundedlock/engine/LeaseWithTtlMsPinLaw"), (2, u "law"), (0, u "(IJJJI)Z")] 5

def k1m0 : Method := { name := "<init>", desc := "()V", sig := { parameters := [], returnType := none }, accessFlags := 1, code := none }
def k1c1 : Code := { maxStack := 10, maxLocals := 14, code := code, exceptionTable := #[], attributes := #[] }
def k1m1 : Method := { name := "law", desc := "(IJJJI)Z", sig := { parameters := [.int, .long, .long, .long, .int], returnType := some .boolean }, accessFlags := 9, code := some k1c1 }
/-- com/example/bounded_lock/boundedlock/engine/LeaseWithTtlMsPinLaw -/
def k1 : Class := { plain "com/example/bounded_lock/boundedlock/engine/LeaseWithTtlMsPinLaw" (some 0) with
  accessFlags := 49
  interfaces := #[]
  cf := some (fileOf pool1 56 #[] #[{ accessFlags := 1, nameIndex := 5, descriptorIndex := 6, attributes := #[] }, { accessFlags := 9, nameIndex := 60, descriptorIndex := 61, attributes := #[] }] 49 2 #[] #[])
  fields := #[]
  methods := #[k1m0, k1m1]
  instanceTypes := #[]
  staticTypes := #[]
  resolved := Array.replicate 67 none
  statics := none }

def pool2 : Array CpInfo := pool [(1, .class_ 2), (0, u "java/io/Serializable"), (0, .class_ 4), (0, u "java/lang/Object")] 2

/-- java/io/Serializable -/
def k2 : Class := { plain "java/io/Serializable" (some 0) with
  accessFlags := 1537
  interfaces := #[]
  cf := some (fileOf pool2 1 #[] #[] 1537 3 #[] #[])
  fields := #[]
  methods := #[]
  instanceTypes := #[]
  staticTypes := #[]
  resolved := Array.replicate 7 none
  statics := none }

def pool3 : Array CpInfo := pool [(1, .class_ 2), (0, u "java/lang/Comparable"), (0, .class_ 4), (0, u "java/lang/Object")] 7

/-- java/lang/Comparable -/
def k3 : Class := { plain "java/lang/Comparable" (some 0) with
  accessFlags := 1537
  interfaces := #[]
  cf := some (fileOf pool3 1 #[] #[] 1537 3 #[] #[])
  fields := #[]
  methods := #[]
  instanceTypes := #[]
  staticTypes := #[]
  resolved := Array.replicate 12 none
  statics := none }

def pool4 : Array CpInfo := pool [(2, .class_ 4), (1, u "java/lang/CharSequence"), (42, .class_ 48), (0, u "java/lang/CharSequence$1CodePointIterator"), (10, .class_ 60), (0, u "java/lang/CharSequence$1CharIterator"), (5, .class_ 67), (0, u "java/lang/Object")] 63

/-- java/lang/CharSequence -/
def k4 : Class := { plain "java/lang/CharSequence" (some 0) with
  accessFlags := 1537
  interfaces := #[]
  cf := some (fileOf pool4 2 #[.nestMembers #[47, 59]] #[] 1537 66 #[] #[])
  fields := #[]
  methods := #[]
  instanceTypes := #[]
  staticTypes := #[]
  resolved := Array.replicate 131 none
  statics := none }

def pool5 : Array CpInfo := pool [(1, .class_ 2), (0, u "java/lang/constant/Constable"), (0, .class_ 4), (0, u "java/lang/Object")] 6

/-- java/lang/constant/Constable -/
def k5 : Class := { plain "java/lang/constant/Constable" (some 0) with
  accessFlags := 1537
  interfaces := #[]
  cf := some (fileOf pool5 1 #[] #[] 1537 3 #[] #[])
  fields := #[]
  methods := #[]
  instanceTypes := #[]
  staticTypes := #[]
  resolved := Array.replicate 11 none
  statics := none }

def pool6 : Array CpInfo := pool [(1, .class_ 2), (0, u "java/lang/constant/ConstantDesc"), (0, .class_ 4), (0, u "java/lang/Object")] 32

/-- java/lang/constant/ConstantDesc -/
def k6 : Class := { plain "java/lang/constant/ConstantDesc" (some 0) with
  accessFlags := 1537
  interfaces := #[]
  cf := some (fileOf pool6 1 #[] #[] 1537 3 #[] #[])
  fields := #[]
  methods := #[]
  instanceTypes := #[]
  staticTypes := #[]
  resolved := Array.replicate 37 none
  statics := none }

def pool7 : Array CpInfo := pool [(1, .methodref 2 3), (0, .class_ 4), (0, .nameAndType 5 6), (0, u "java/lang/Object"), (0, u "<init>"), (0, u "()V"), (2, .fieldref 10 11), (0, .class_ 12), (0, .nameAndType 13 14), (0, u "java/lang/String"), (0, u "value"), (0, u "[B"), (0, .fieldref 10 16), (0, .nameAndType 17 18), (0, u "coder"), (0, u "B"), (2, u "hash"), (0, u "I"), (2, u "hashIsZero"), (0, u "Z"), (0, .methodref 10 28), (0, .nameAndType 5 29), (0, u "([CIILjava/lang/Void;)V"), (8, .fieldref 10 39), (0, .nameAndType 40 26), (0, u "COMPACT_STRINGS"), (1, .class_ 44), (1, u "java/lang/StringUTF16"), (0, u "compress"), (1, .methodref 42 48), (0, .nameAndType 49 50), (0, u "coderFromArrayLen"), (0, u "([BI)B"), (2, u "toBytes"), (53, .class_ 109), (1, u "java/lang/StringLatin1"), (32, u "()Z"), (34, .methodref 42 178), (0, .nameAndType 45 179), (0, u "([CII)[B"), (29, .methodref 10 210), (0, .nameAndType 5 211), (0, u "([BB)V"), (122, u "()I"), (0, .methodref 10 336), (0, .nameAndType 17 337), (0, u "()B"), (25, u "([BI)C"), (5, u "(C)Z"), (21, u "(II)V"), (35, u "(I)C"), (64, .methodref 10 493), (0, .nameAndType 494 142), (0, u "isLatin1"), (0, .methodref 107 496), (0, .nameAndType 497 363), (0, u "charAt"), (3, u "checkIndex"), (5, u "length"), (67, .class_ 576), (0, u "java/lang/CharSequence"), (22, u "CASE_INSENSITIVE_ORDER"), (0, u "Ljava/util/Comparator;"), (91, u "isEmpty"), (89, u "valueOf"), (0, u "(C)Ljava/lang/String;"), (226, u "([C)V"), (4, .methodref 107 1016), (0, .nameAndType 1017 369), (0, u "canEncode"), (0, .methodref 107 1019), (0, .nameAndType 53 1020), (0, u "(C)[B"), (32, .fieldref 1054 1055), (0, .class_ 1056), (0, .nameAndType 1057 1058), (0, u "jdk/internal/util/Preconditions"), (0, u "SIOOBE_FORMATTER"), (0, u "Ljava/util/function/BiFunction;"), (0, .methodref 1054 1060), (0, .nameAndType 501 1061), (0, u "(IILjava/util/function/BiFunction;)I"), (39, u "serialPersistentFields"), (0, u "[Ljava/io/ObjectStreamField;"), (0, .class_ 1104), (0, u "java/lang/String$CaseInsensitiveComparator"), (1, .class_ 1107), (0, u "java/io/Serializable"), (0, .class_ 1109), (0, u "java/lang/Comparable"), (0, .class_ 1111), (0, u "java/lang/constant/Constable"), (0, .class_ 1113), (0, u "java/lang/constant/ConstantDesc"), (2, u "serialVersionUID"), (0, u "J"), (3, u "REPL"), (0, u "C"), (2, u "LATIN1"), (1, u "UTF16")] 323

def k7m0 : Method := { name := "<init>", desc := "()V", sig := { parameters := [], returnType := none }, accessFlags := 1, code := none }
def k7c1 : Code := { maxStack := 5, maxLocals := 2, code := jdk_42_method_3_code, exceptionTable := #[], attributes := #[] }
def k7m1 : Method := { name := "<init>", desc := "([C)V", sig := { parameters := [(.array .char)], returnType := none }, accessFlags := 1, code := some k7c1 }
def k7c2 : Code := { maxStack := 2, maxLocals := 1, code := jdk_42_method_54_code, exceptionTable := #[], attributes := #[] }
def k7m2 : Method := { name := "length", desc := "()I", sig := { parameters := [], returnType := some .int }, accessFlags := 1, code := some k7c2 }
def k7c3 : Code := { maxStack := 1, maxLocals := 1, code := jdk_42_method_55_code, exceptionTable := #[], attributes := #[] }
def k7m3 : Method := { name := "isEmpty", desc := "()Z", sig := { parameters := [], returnType := some .boolean }, accessFlags := 1, code := some k7c3 }
def k7c4 : Code := { maxStack := 2, maxLocals := 2, code := jdk_42_method_56_code, exceptionTable := #[], attributes := #[] }
def k7m4 : Method := { name := "charAt", desc := "(I)C", sig := { parameters := [.int], returnType := some .char }, accessFlags := 1, code := some k7c4 }
def k7c5 : Code := { maxStack := 4, maxLocals := 1, code := jdk_42_method_139_code, exceptionTable := #[], attributes := #[] }
def k7m5 : Method := { name := "valueOf", desc := "(C)Ljava/lang/String;", sig := { parameters := [.char], returnType := some (.object "java/lang/String") }, accessFlags := 9, code := some k7c5 }
def k7c6 : Code := { maxStack := 4, maxLocals := 6, code := jdk_42_method_149_code, exceptionTable := #[], attributes := #[] }
def k7m6 : Method := { name := "<init>", desc := "([CIILjava/lang/Void;)V", sig := { parameters := [(.array .char), .int, .int, (.object "java/lang/Void")], returnType := none }, accessFlags := 2, code := some k7c6 }
def k7c7 : Code := { maxStack := 2, maxLocals := 3, code := jdk_42_method_151_code, exceptionTable := #[], attributes := #[] }
def k7m7 : Method := { name := "<init>", desc := "([BB)V", sig := { parameters := [(.array .byte), .byte], returnType := none }, accessFlags := 0, code := some k7c7 }
def k7c8 : Code := { maxStack := 1, maxLocals := 1, code := jdk_42_method_152_code, exceptionTable := #[], attributes := #[] }
def k7m8 : Method := { name := "coder", desc := "()B", sig := { parameters := [], returnType := some .byte }, accessFlags := 0, code := some k7c8 }
def k7c9 : Code := { maxStack := 1, maxLocals := 1, code := jdk_42_method_154_code, exceptionTable := #[], attributes := #[] }
def k7m9 : Method := { name := "isLatin1", desc := "()Z", sig := { parameters := [], returnType := some .boolean }, accessFlags := 0, code := some k7c9 }
def k7c10 : Code := { maxStack := 3, maxLocals := 2, code := jdk_42_method_155_code, exceptionTable := #[], attributes := #[] }
def k7m10 : Method := { name := "checkIndex", desc := "(II)V", sig := { parameters := [.int, .int], returnType := none }, accessFlags := 8, code := some k7c10 }
/-- java/lang/String -/
def k7 : Class := { plain "java/lang/String" (some 0) with
  accessFlags := 49
  interfaces := #[2, 3, 4, 5, 6]
  cf := some (fileOf pool7 10 #[.nestMembers #[1103]] #[{ accessFlags := 1, nameIndex := 5, descriptorIndex := 6, attributes := #[] }, { accessFlags := 1, nameIndex := 5, descriptorIndex := 1010, attributes := #[] }, { accessFlags := 1, nameIndex := 507, descriptorIndex := 334, attributes := #[] }, { accessFlags := 1, nameIndex := 692, descriptorIndex := 142, attributes := #[] }, { accessFlags := 1, nameIndex := 497, descriptorIndex := 427, attributes := #[] }, { accessFlags := 9, nameIndex := 782, descriptorIndex := 783, attributes := #[] }, { accessFlags := 2, nameIndex := 5, descriptorIndex := 29, attributes := #[] }, { accessFlags := 0, nameIndex := 5, descriptorIndex := 211, attributes := #[] }, { accessFlags := 0, nameIndex := 17, descriptorIndex := 337, attributes := #[] }, { accessFlags := 0, nameIndex := 494, descriptorIndex := 142, attributes := #[] }, { accessFlags := 8, nameIndex := 501, descriptorIndex := 391, attributes := #[] }] 49 2 #[1106, 1108, 575, 1110, 1112] #[{ accessFlags := 18, nameIndex := 13, descriptorIndex := 14, attributes := #[] }, { accessFlags := 18, nameIndex := 17, descriptorIndex := 18, attributes := #[] }, { accessFlags := 2, nameIndex := 21, descriptorIndex := 22, attributes := #[] }, { accessFlags := 2, nameIndex := 25, descriptorIndex := 26, attributes := #[] }, { accessFlags := 26, nameIndex := 1116, descriptorIndex := 1117, attributes := #[] }, { accessFlags := 24, nameIndex := 40, descriptorIndex := 26, attributes := #[] }, { accessFlags := 26, nameIndex := 1101, descriptorIndex := 1102, attributes := #[] }, { accessFlags := 26, nameIndex := 1121, descriptorIndex := 1122, attributes := #[] }, { accessFlags := 25, nameIndex := 599, descriptorIndex := 600, attributes := #[] }, { accessFlags := 24, nameIndex := 1125, descriptorIndex := 18, attributes := #[] }, { accessFlags := 24, nameIndex := 1127, descriptorIndex := 18, attributes := #[] }])
  fields := #[{ name := "value", type := (.array .byte), accessFlags := 18, slot := 0, constantValue := 0 }, { name := "coder", type := .byte, accessFlags := 18, slot := 1, constantValue := 0 }, { name := "hash", type := .int, accessFlags := 2, slot := 2, constantValue := 0 }, { name := "hashIsZero", type := .boolean, accessFlags := 2, slot := 3, constantValue := 0 }, { name := "serialVersionUID", type := .long, accessFlags := 26, slot := 0, constantValue := 0 }, { name := "COMPACT_STRINGS", type := .boolean, accessFlags := 24, slot := 1, constantValue := 0 }, { name := "serialPersistentFields", type := (.array (.object "java/io/ObjectStreamField")), accessFlags := 26, slot := 2, constantValue := 0 }, { name := "REPL", type := .char, accessFlags := 26, slot := 3, constantValue := 0 }, { name := "CASE_INSENSITIVE_ORDER", type := (.object "java/util/Comparator"), accessFlags := 25, slot := 4, constantValue := 0 }, { name := "LATIN1", type := .byte, accessFlags := 24, slot := 5, constantValue := 0 }, { name := "UTF16", type := .byte, accessFlags := 24, slot := 6, constantValue := 0 }]
  methods := #[k7m0, k7m1, k7m2, k7m3, k7m4, k7m5, k7m6, k7m7, k7m8, k7m9, k7m10]
  instanceTypes := #[(.array .byte), .byte, .int, .boolean]
  staticTypes := #[.long, .boolean, (.array (.object "java/io/ObjectStreamField")), .char, (.object "java/util/Comparator"), .byte, .byte]
  resolved := Array.replicate 1451 none
  statics := some 0 }

def pool8 : Array CpInfo := pool [(6, .class_ 8), (1, u "java/lang/Object"), (0, u "<init>"), (0, u "()V"), (1, .class_ 14), (1, u "java/lang/StringUTF16"), (31, u "$assertionsDisabled"), (0, u "Z"), (13, u "HI_BYTE_SHIFT"), (0, u "I"), (2, u "LO_BYTE_SHIFT"), (49, .methodref 12 116), (0, .nameAndType 117 118), (0, u "compress"), (0, u "([CI[BII)I"), (3, u "([CII)[B"), (138, u "coderFromArrayLen"), (0, u "([BI)B"), (106, .class_ 371), (1, u "java/lang/StringUTF16$LinesSpliterator"), (58, u "MAX_LENGTH"), (196, .class_ 628), (0, u "java/lang/StringUTF16$CodePointsSpliterator"), (0, .class_ 630), (0, u "java/lang/StringUTF16$CharsSpliterator")] 4

def k8m0 : Method := { name := "<init>", desc := "()V", sig := { parameters := [], returnType := none }, accessFlags := 0, code := none }
def k8c1 : Code := { maxStack := 2, maxLocals := 2, code := jdk_52_method_15_code, exceptionTable := #[], attributes := #[] }
def k8m1 : Method := { name := "coderFromArrayLen", desc := "([BI)B", sig := { parameters := [(.array .byte), .int], returnType := some .byte }, accessFlags := 8, code := some k8c1 }
def k8c2 : Code := { maxStack := 5, maxLocals := 6, code := jdk_52_method_16_code, exceptionTable := #[], attributes := #[] }
def k8m2 : Method := { name := "compress", desc := "([CII)[B", sig := { parameters := [(.array .char), .int, .int], returnType := some (.array .byte) }, accessFlags := 9, code := some k8c2 }
def k8c3 : Code := { maxStack := 3, maxLocals := 7, code := jdk_52_method_21_code, exceptionTable := #[], attributes := #[] }
def k8m3 : Method := { name := "compress", desc := "([CI[BII)I", sig := { parameters := [(.array .char), .int, (.array .byte), .int, .int], returnType := some .int }, accessFlags := 9, code := some k8c3 }
/-- java/lang/StringUTF16 -/
def k8 : Class := { plain "java/lang/StringUTF16" (some 0) with
  accessFlags := 48
  interfaces := #[]
  cf := some (fileOf pool8 12 #[.nestMembers #[627, 629, 369]] #[{ accessFlags := 0, nameIndex := 9, descriptorIndex := 10, attributes := #[] }, { accessFlags := 8, nameIndex := 261, descriptorIndex := 262, attributes := #[] }, { accessFlags := 9, nameIndex := 117, descriptorIndex := 122, attributes := #[] }, { accessFlags := 9, nameIndex := 117, descriptorIndex := 118, attributes := #[] }] 48 6 #[] #[{ accessFlags := 26, nameIndex := 61, descriptorIndex := 62, attributes := #[] }, { accessFlags := 26, nameIndex := 65, descriptorIndex := 62, attributes := #[] }, { accessFlags := 24, nameIndex := 430, descriptorIndex := 62, attributes := #[] }, { accessFlags := 4120, nameIndex := 46, descriptorIndex := 47, attributes := #[] }])
  fields := #[{ name := "HI_BYTE_SHIFT", type := .int, accessFlags := 26, slot := 0, constantValue := 0 }, { name := "LO_BYTE_SHIFT", type := .int, accessFlags := 26, slot := 1, constantValue := 0 }, { name := "MAX_LENGTH", type := .int, accessFlags := 24, slot := 2, constantValue := 0 }, { name := "$assertionsDisabled", type := .boolean, accessFlags := 4120, slot := 3, constantValue := 0 }]
  methods := #[k8m0, k8m1, k8m2, k8m3]
  instanceTypes := #[]
  staticTypes := #[.int, .int, .int, .boolean]
  resolved := Array.replicate 635 none
  statics := none }

def pool9 : Array CpInfo := pool [(1, .class_ 2), (0, u "java/lang/String"), (1, .class_ 6), (1, u "java/lang/Object"), (0, u "<init>"), (0, u "()V"), (0, .methodref 1 10), (0, .nameAndType 11 12), (0, u "checkIndex"), (0, u "(II)V"), (1, .class_ 16), (1, u "java/lang/StringLatin1"), (36, u "([BI)C"), (36, u "canEncode"), (14, u "(C)Z"), (15, u "$assertionsDisabled"), (0, u "Z"), (98, .class_ 223), (1, u "java/lang/StringLatin1$LinesSpliterator"), (28, u "charAt"), (127, u "toBytes"), (1, u "(C)[B"), (7, .class_ 391), (0, u "java/lang/StringLatin1$CharsSpliterator")] 3

def k9m0 : Method := { name := "<init>", desc := "()V", sig := { parameters := [], returnType := none }, accessFlags := 0, code := none }
def k9c1 : Code := { maxStack := 2, maxLocals := 2, code := jdk_43_method_2_code, exceptionTable := #[], attributes := #[] }
def k9m1 : Method := { name := "charAt", desc := "([BI)C", sig := { parameters := [(.array .byte), .int], returnType := some .char }, accessFlags := 9, code := some k9c1 }
def k9c2 : Code := { maxStack := 2, maxLocals := 1, code := jdk_43_method_3_code, exceptionTable := #[], attributes := #[] }
def k9m2 : Method := { name := "canEncode", desc := "(C)Z", sig := { parameters := [.char], returnType := some .boolean }, accessFlags := 9, code := some k9c2 }
def k9c3 : Code := { maxStack := 4, maxLocals := 1, code := jdk_43_method_46_code, exceptionTable := #[], attributes := #[] }
def k9m3 : Method := { name := "toBytes", desc := "(C)[B", sig := { parameters := [.char], returnType := some (.array .byte) }, accessFlags := 9, code := some k9c3 }
/-- java/lang/StringLatin1 -/
def k9 : Class := { plain "java/lang/StringLatin1" (some 0) with
  accessFlags := 48
  interfaces := #[]
  cf := some (fileOf pool9 14 #[.nestMembers #[390, 221]] #[{ accessFlags := 0, nameIndex := 7, descriptorIndex := 8, attributes := #[] }, { accessFlags := 9, nameIndex := 252, descriptorIndex := 53, attributes := #[] }, { accessFlags := 9, nameIndex := 90, descriptorIndex := 105, attributes := #[] }, { accessFlags := 9, nameIndex := 380, descriptorIndex := 382, attributes := #[] }] 48 4 #[] #[{ accessFlags := 4120, nameIndex := 121, descriptorIndex := 122, attributes := #[] }])
  fields := #[{ name := "$assertionsDisabled", type := .boolean, accessFlags := 4120, slot := 0, constantValue := 0 }]
  methods := #[k9m0, k9m1, k9m2, k9m3]
  instanceTypes := #[]
  staticTypes := #[.boolean]
  resolved := Array.replicate 395 none
  statics := none }

def pool10 : Array CpInfo := pool [(1, .methodref 2 3), (0, .class_ 4), (0, .nameAndType 5 6), (0, u "java/lang/Object"), (0, u "<init>"), (0, u "()V"), (0, .class_ 8), (0, u "java/lang/Record")] 13

def k10c0 : Code := { maxStack := 1, maxLocals := 1, code := jdk_30_method_1_code, exceptionTable := #[], attributes := #[] }
def k10m0 : Method := { name := "<init>", desc := "()V", sig := { parameters := [], returnType := none }, accessFlags := 4, code := some k10c0 }
/-- java/lang/Record -/
def k10 : Class := { plain "java/lang/Record" (some 0) with
  accessFlags := 1057
  interfaces := #[]
  cf := some (fileOf pool10 7 #[] #[{ accessFlags := 4, nameIndex := 5, descriptorIndex := 6, attributes := #[] }] 1057 2 #[] #[])
  fields := #[]
  methods := #[k10m0]
  instanceTypes := #[]
  staticTypes := #[]
  resolved := Array.replicate 22 none
  statics := none }

def pool11 : Array CpInfo := pool [(1, .class_ 2), (0, u "com/example/bounded_lock/boundedlock/engine/SemaphoreName"), (0, .methodref 4 5), (0, .class_ 6), (0, .nameAndType 7 8), (0, u "java/lang/Record"), (0, u "<init>"), (0, u "()V"), (0, .string 10), (0, u "value"), (0, .methodref 12 13), (0, .class_ 14), (0, .nameAndType 15 16), (0, u "java/util/Objects"), (0, u "requireNonNull"), (0, u "(Ljava/lang/Object;Ljava/lang/String;)Ljava/lang/Object;"), (0, .methodref 18 19), (0, .class_ 20), (0, .nameAndType 21 22), (0, u "java/lang/String"), (0, u "length"), (0, u "()I"), (0, .methodref 18 24), (0, .nameAndType 25 26), (0, u "charAt"), (0, u "(I)C"), (0, .methodref 1 28), (0, .nameAndType 29 30), (0, u "isNameCharacter"), (0, u "(C)Z"), (24, u "(Ljava/lang/String;)V"), (0, .methodref 18 57), (0, .nameAndType 58 59), (0, u "isEmpty"), (0, u "()Z"), (4, .fieldref 1 65), (0, .nameAndType 10 66), (0, u "Ljava/lang/String;"), (12, u "MAX_LENGTH"), (0, u "I"), (2, u "RULE")] 32

def k11c0 : Code := { maxStack := 8, maxLocals := 3, code := prog_12_method_1_code, exceptionTable := #[], attributes := #[] }
def k11m0 : Method := { name := "<init>", desc := "(Ljava/lang/String;)V", sig := { parameters := [(.object "java/lang/String")], returnType := none }, accessFlags := 1, code := some k11c0 }
def k11c1 : Code := { maxStack := 2, maxLocals := 1, code := prog_12_method_2_code, exceptionTable := #[], attributes := #[] }
def k11m1 : Method := { name := "isNameCharacter", desc := "(C)Z", sig := { parameters := [.char], returnType := some .boolean }, accessFlags := 10, code := some k11c1 }
/-- com/example/bounded_lock/boundedlock/engine/SemaphoreName -/
def k11 : Class := { plain "com/example/bounded_lock/boundedlock/engine/SemaphoreName" (some 10) with
  accessFlags := 49
  interfaces := #[]
  cf := some (fileOf pool11 1 #[] #[{ accessFlags := 1, nameIndex := 7, descriptorIndex := 55, attributes := #[] }, { accessFlags := 10, nameIndex := 29, descriptorIndex := 30, attributes := #[] }] 49 4 #[] #[{ accessFlags := 18, nameIndex := 10, descriptorIndex := 66, attributes := #[] }, { accessFlags := 25, nameIndex := 79, descriptorIndex := 80, attributes := #[] }, { accessFlags := 26, nameIndex := 83, descriptorIndex := 66, attributes := #[] }])
  fields := #[{ name := "value", type := (.object "java/lang/String"), accessFlags := 18, slot := 0, constantValue := 0 }, { name := "MAX_LENGTH", type := .int, accessFlags := 25, slot := 0, constantValue := 0 }, { name := "RULE", type := (.object "java/lang/String"), accessFlags := 26, slot := 1, constantValue := 0 }]
  methods := #[k11m0, k11m1]
  instanceTypes := #[(.object "java/lang/String")]
  staticTypes := #[.int, (.object "java/lang/String")]
  resolved := Array.replicate 116 none
  statics := none }

def pool12 : Array CpInfo := pool [(2, .class_ 4), (1, u "java/lang/Object"), (0, u "<init>"), (0, u "()V"), (35, .class_ 44), (1, u "java/util/Objects"), (0, u "requireNonNull"), (48, u "(Ljava/lang/Object;Ljava/lang/String;)Ljava/lang/Object;")] 89

def k12m0 : Method := { name := "<init>", desc := "()V", sig := { parameters := [], returnType := none }, accessFlags := 2, code := none }
def k12c1 : Code := { maxStack := 3, maxLocals := 2, code := jdk_31_method_11_code, exceptionTable := #[], attributes := #[] }
def k12m1 : Method := { name := "requireNonNull", desc := "(Ljava/lang/Object;Ljava/lang/String;)Ljava/lang/Object;", sig := { parameters := [(.object "java/lang/Object"), (.object "java/lang/String")], returnType := some (.object "java/lang/Object") }, accessFlags := 9, code := some k12c1 }
/-- java/util/Objects -/
def k12 : Class := { plain "java/util/Objects" (some 0) with
  accessFlags := 49
  interfaces := #[]
  cf := some (fileOf pool12 42 #[] #[{ accessFlags := 2, nameIndex := 5, descriptorIndex := 6, attributes := #[] }, { accessFlags := 9, nameIndex := 45, descriptorIndex := 94, attributes := #[] }] 49 2 #[] #[])
  fields := #[]
  methods := #[k12m0, k12m1]
  instanceTypes := #[]
  staticTypes := #[]
  resolved := Array.replicate 184 none
  statics := none }

def pool13 : Array CpInfo := pool [(2, .class_ 4), (1, u "java/lang/Object"), (0, u "<init>"), (0, u "()V"), (17, .class_ 26), (1, u "jdk/internal/util/Preconditions"), (6, u "checkIndex"), (21, .class_ 56), (0, u "jdk/internal/util/Preconditions$4"), (57, .class_ 115), (0, u "jdk/internal/util/Preconditions$1"), (7, u "SIOOBE_FORMATTER"), (0, u "Ljava/util/function/BiFunction;"), (0, .class_ 126), (0, u "jdk/internal/util/Preconditions$2"), (3, u "AIOOBE_FORMATTER"), (0, .class_ 132), (0, u "jdk/internal/util/Preconditions$3"), (3, u "IOOBE_FORMATTER"), (41, u "(IILjava/util/function/BiFunction;)I")] 15

def k13m0 : Method := { name := "<init>", desc := "()V", sig := { parameters := [], returnType := none }, accessFlags := 1, code := none }
def k13c1 : Code := { maxStack := 3, maxLocals := 3, code := jdk_41_method_11_code, exceptionTable := #[], attributes := #[] }
def k13m1 : Method := { name := "checkIndex", desc := "(IILjava/util/function/BiFunction;)I", sig := { parameters := [.int, .int, (.object "java/util/function/BiFunction")], returnType := some .int }, accessFlags := 9, code := some k13c1 }
/-- jdk/internal/util/Preconditions -/
def k13 : Class := { plain "jdk/internal/util/Preconditions" (some 0) with
  accessFlags := 33
  interfaces := #[]
  cf := some (fileOf pool13 24 #[.nestMembers #[55, 131, 125, 114]] #[{ accessFlags := 1, nameIndex := 5, descriptorIndex := 6, attributes := #[] }, { accessFlags := 9, nameIndex := 33, descriptorIndex := 178, attributes := #[] }] 33 2 #[] #[{ accessFlags := 25, nameIndex := 123, descriptorIndex := 124, attributes := #[] }, { accessFlags := 25, nameIndex := 130, descriptorIndex := 124, attributes := #[] }, { accessFlags := 25, nameIndex := 136, descriptorIndex := 124, attributes := #[] }])
  fields := #[{ name := "SIOOBE_FORMATTER", type := (.object "java/util/function/BiFunction"), accessFlags := 25, slot := 0, constantValue := 0 }, { name := "AIOOBE_FORMATTER", type := (.object "java/util/function/BiFunction"), accessFlags := 25, slot := 1, constantValue := 0 }, { name := "IOOBE_FORMATTER", type := (.object "java/util/function/BiFunction"), accessFlags := 25, slot := 2, constantValue := 0 }]
  methods := #[k13m0, k13m1]
  instanceTypes := #[]
  staticTypes := #[(.object "java/util/function/BiFunction"), (.object "java/util/function/BiFunction"), (.object "java/util/function/BiFunction")]
  resolved := Array.replicate 194 none
  statics := some 1 }

def pool14 : Array CpInfo := pool [(1, .methodref 2 3), (0, .class_ 4), (0, .nameAndType 5 6), (0, u "java/lang/Record"), (0, u "<init>"), (0, u "()V"), (0, .string 8), (0, u "id"), (0, .methodref 10 11), (0, .class_ 12), (0, .nameAndType 13 14), (0, u "java/util/Objects"), (0, u "requireNonNull"), (0, u "(Ljava/lang/Object;Ljava/lang/String;)Ljava/lang/Object;"), (0, .string 16), (0, u "name"), (0, .string 18), (0, u "owner"), (0, .fieldref 20 21), (0, .class_ 22), (0, .nameAndType 8 23), (0, u "com/example/bounded_lock/boundedlock/engine/Lease"), (0, u "Ljava/lang/String;"), (0, .fieldref 20 25), (0, .nameAndType 16 26), (0, u "Lcom/example/bounded_lock/boundedlock/engine/SemaphoreName;"), (0, .fieldref 20 28), (0, .nameAndType 29 30), (0, u "permits"), (0, u "I"), (0, .fieldref 20 32), (0, .nameAndType 33 34), (0, u "fence"), (0, u "J"), (0, .fieldref 20 36), (0, .nameAndType 18 23), (0, .fieldref 20 38), (0, .nameAndType 39 34), (0, u "ttlMs"), (0, .methodref 20 41), (0, .nameAndType 5 42), (0, u "(Ljava/lang/String;Lcom/example/bounded_lock/boundedlock/engine/SemaphoreName;IJLjava/lang/String;J)V"), (15, u "withTtlMs"), (0, u "(J)Lcom/example/bounded_lock/boundedlock/engine/Lease;"), (0, u "()Ljava/lang/String;"), (0, u "()I"), (1, u "()Lcom/example/bounded_lock/boundedlock/engine/SemaphoreName;"), (0, u "()J")] 25

def k14c0 : Code := { maxStack := 3, maxLocals := 9, code := prog_9_method_1_code, exceptionTable := #[], attributes := #[] }
def k14m0 : Method := { name := "<init>", desc := "(Ljava/lang/String;Lcom/example/bounded_lock/boundedlock/engine/SemaphoreName;IJLjava/lang/String;J)V", sig := { parameters := [(.object "java/lang/String"), (.object "com/example/bounded_lock/boundedlock/engine/SemaphoreName"), .int, .long, (.object "java/lang/String"), .long], returnType := none }, accessFlags := 1, code := some k14c0 }
def k14c1 : Code := { maxStack := 10, maxLocals := 3, code := prog_9_method_2_code, exceptionTable := #[], attributes := #[] }
def k14m1 : Method := { name := "withTtlMs", desc := "(J)Lcom/example/bounded_lock/boundedlock/engine/Lease;", sig := { parameters := [.long], returnType := some (.object "com/example/bounded_lock/boundedlock/engine/Lease") }, accessFlags := 0, code := some k14c1 }
def k14c2 : Code := { maxStack := 1, maxLocals := 1, code := prog_9_method_6_code, exceptionTable := #[], attributes := #[] }
def k14m2 : Method := { name := "id", desc := "()Ljava/lang/String;", sig := { parameters := [], returnType := some (.object "java/lang/String") }, accessFlags := 1, code := some k14c2 }
def k14c3 : Code := { maxStack := 1, maxLocals := 1, code := prog_9_method_7_code, exceptionTable := #[], attributes := #[] }
def k14m3 : Method := { name := "name", desc := "()Lcom/example/bounded_lock/boundedlock/engine/SemaphoreName;", sig := { parameters := [], returnType := some (.object "com/example/bounded_lock/boundedlock/engine/SemaphoreName") }, accessFlags := 1, code := some k14c3 }
def k14c4 : Code := { maxStack := 1, maxLocals := 1, code := prog_9_method_8_code, exceptionTable := #[], attributes := #[] }
def k14m4 : Method := { name := "permits", desc := "()I", sig := { parameters := [], returnType := some .int }, accessFlags := 1, code := some k14c4 }
def k14c5 : Code := { maxStack := 2, maxLocals := 1, code := prog_9_method_9_code, exceptionTable := #[], attributes := #[] }
def k14m5 : Method := { name := "fence", desc := "()J", sig := { parameters := [], returnType := some .long }, accessFlags := 1, code := some k14c5 }
def k14c6 : Code := { maxStack := 1, maxLocals := 1, code := prog_9_method_10_code, exceptionTable := #[], attributes := #[] }
def k14m6 : Method := { name := "owner", desc := "()Ljava/lang/String;", sig := { parameters := [], returnType := some (.object "java/lang/String") }, accessFlags := 1, code := some k14c6 }
def k14c7 : Code := { maxStack := 2, maxLocals := 1, code := prog_9_method_11_code, exceptionTable := #[], attributes := #[] }
def k14m7 : Method := { name := "ttlMs", desc := "()J", sig := { parameters := [], returnType := some .long }, accessFlags := 1, code := some k14c7 }
/-- com/example/bounded_lock/boundedlock/engine/Lease -/
def k14 : Class := { plain "com/example/bounded_lock/boundedlock/engine/Lease" (some 10) with
  accessFlags := 49
  interfaces := #[]
  cf := some (fileOf pool14 20 #[] #[{ accessFlags := 1, nameIndex := 5, descriptorIndex := 42, attributes := #[] }, { accessFlags := 0, nameIndex := 58, descriptorIndex := 59, attributes := #[] }, { accessFlags := 1, nameIndex := 8, descriptorIndex := 60, attributes := #[] }, { accessFlags := 1, nameIndex := 16, descriptorIndex := 63, attributes := #[] }, { accessFlags := 1, nameIndex := 29, descriptorIndex := 61, attributes := #[] }, { accessFlags := 1, nameIndex := 33, descriptorIndex := 64, attributes := #[] }, { accessFlags := 1, nameIndex := 18, descriptorIndex := 60, attributes := #[] }, { accessFlags := 1, nameIndex := 39, descriptorIndex := 64, attributes := #[] }] 49 2 #[] #[{ accessFlags := 18, nameIndex := 8, descriptorIndex := 23, attributes := #[] }, { accessFlags := 18, nameIndex := 16, descriptorIndex := 26, attributes := #[] }, { accessFlags := 18, nameIndex := 29, descriptorIndex := 30, attributes := #[] }, { accessFlags := 18, nameIndex := 33, descriptorIndex := 34, attributes := #[] }, { accessFlags := 18, nameIndex := 18, descriptorIndex := 23, attributes := #[] }, { accessFlags := 18, nameIndex := 39, descriptorIndex := 34, attributes := #[] }])
  fields := #[{ name := "id", type := (.object "java/lang/String"), accessFlags := 18, slot := 0, constantValue := 0 }, { name := "name", type := (.object "com/example/bounded_lock/boundedlock/engine/SemaphoreName"), accessFlags := 18, slot := 1, constantValue := 0 }, { name := "permits", type := .int, accessFlags := 18, slot := 2, constantValue := 0 }, { name := "fence", type := .long, accessFlags := 18, slot := 3, constantValue := 0 }, { name := "owner", type := (.object "java/lang/String"), accessFlags := 18, slot := 4, constantValue := 0 }, { name := "ttlMs", type := .long, accessFlags := 18, slot := 5, constantValue := 0 }]
  methods := #[k14m0, k14m1, k14m2, k14m3, k14m4, k14m5, k14m6, k14m7]
  instanceTypes := #[(.object "java/lang/String"), (.object "com/example/bounded_lock/boundedlock/engine/SemaphoreName"), .int, .long, (.object "java/lang/String"), .long]
  staticTypes := #[]
  resolved := Array.replicate 90 none
  statics := none }

def pool15 : Array CpInfo := pool [(9, u "<init>"), (6, .class_ 18), (1, u "java/lang/Object"), (0, u "()V"), (1, .class_ 23), (1, u "jdk/internal/util/ArraysSupport"), (0, u "LOG2_ARRAY_LONG_INDEX_SCALE"), (0, u "I"), (2, u "U"), (0, u "Ljdk/internal/misc/Unsafe;"), (8, u "BIG_ENDIAN"), (0, u "Z"), (8, u "LOG2_BYTE_BIT_SIZE"), (4, u "LOG2_ARRAY_INT_INDEX_SCALE"), (54, u "JLA"), (0, u "Ljdk/internal/access/JavaLangAccess;"), (11, u "LOG2_ARRAY_BOOLEAN_INDEX_SCALE"), (9, u "LOG2_ARRAY_BYTE_INDEX_SCALE"), (5, u "LOG2_ARRAY_CHAR_INDEX_SCALE"), (5, u "LOG2_ARRAY_SHORT_INDEX_SCALE"), (18, u "LOG2_ARRAY_FLOAT_INDEX_SCALE"), (24, u "LOG2_ARRAY_DOUBLE_INDEX_SCALE"), (89, u "T_BOOLEAN"), (2, u "T_CHAR"), (1, u "T_FLOAT"), (1, u "T_DOUBLE"), (1, u "T_BYTE"), (1, u "T_SHORT"), (1, u "T_INT"), (1, u "T_LONG"), (1, u "SOFT_MAX_ARRAY_LENGTH")] 83

def k15m0 : Method := { name := "<init>", desc := "()V", sig := { parameters := [], returnType := none }, accessFlags := 2, code := none }
/-- jdk/internal/util/ArraysSupport -/
def k15 : Class := { plain "jdk/internal/util/ArraysSupport" (some 0) with
  accessFlags := 33
  interfaces := #[]
  cf := some (fileOf pool15 21 #[] #[{ accessFlags := 2, nameIndex := 9, descriptorIndex := 19, attributes := #[] }] 33 16 #[] #[{ accessFlags := 24, nameIndex := 28, descriptorIndex := 29, attributes := #[] }, { accessFlags := 26, nameIndex := 38, descriptorIndex := 39, attributes := #[] }, { accessFlags := 25, nameIndex := 121, descriptorIndex := 25, attributes := #[] }, { accessFlags := 25, nameIndex := 131, descriptorIndex := 25, attributes := #[] }, { accessFlags := 25, nameIndex := 137, descriptorIndex := 25, attributes := #[] }, { accessFlags := 25, nameIndex := 143, descriptorIndex := 25, attributes := #[] }, { accessFlags := 25, nameIndex := 53, descriptorIndex := 25, attributes := #[] }, { accessFlags := 25, nameIndex := 24, descriptorIndex := 25, attributes := #[] }, { accessFlags := 25, nameIndex := 162, descriptorIndex := 25, attributes := #[] }, { accessFlags := 25, nameIndex := 187, descriptorIndex := 25, attributes := #[] }, { accessFlags := 26, nameIndex := 48, descriptorIndex := 25, attributes := #[] }, { accessFlags := 25, nameIndex := 277, descriptorIndex := 25, attributes := #[] }, { accessFlags := 25, nameIndex := 280, descriptorIndex := 25, attributes := #[] }, { accessFlags := 25, nameIndex := 282, descriptorIndex := 25, attributes := #[] }, { accessFlags := 25, nameIndex := 284, descriptorIndex := 25, attributes := #[] }, { accessFlags := 25, nameIndex := 286, descriptorIndex := 25, attributes := #[] }, { accessFlags := 25, nameIndex := 288, descriptorIndex := 25, attributes := #[] }, { accessFlags := 25, nameIndex := 290, descriptorIndex := 25, attributes := #[] }, { accessFlags := 25, nameIndex := 292, descriptorIndex := 25, attributes := #[] }, { accessFlags := 26, nameIndex := 108, descriptorIndex := 109, attributes := #[] }, { accessFlags := 25, nameIndex := 294, descriptorIndex := 25, attributes := #[] }])
  fields := #[{ name := "U", type := (.object "jdk/internal/misc/Unsafe"), accessFlags := 24, slot := 0, constantValue := 0 }, { name := "BIG_ENDIAN", type := .boolean, accessFlags := 26, slot := 1, constantValue := 0 }, { name := "LOG2_ARRAY_BOOLEAN_INDEX_SCALE", type := .int, accessFlags := 25, slot := 2, constantValue := 0 }, { name := "LOG2_ARRAY_BYTE_INDEX_SCALE", type := .int, accessFlags := 25, slot := 3, constantValue := 0 }, { name := "LOG2_ARRAY_CHAR_INDEX_SCALE", type := .int, accessFlags := 25, slot := 4, constantValue := 0 }, { name := "LOG2_ARRAY_SHORT_INDEX_SCALE", type := .int, accessFlags := 25, slot := 5, constantValue := 0 }, { name := "LOG2_ARRAY_INT_INDEX_SCALE", type := .int, accessFlags := 25, slot := 6, constantValue := 0 }, { name := "LOG2_ARRAY_LONG_INDEX_SCALE", type := .int, accessFlags := 25, slot := 7, constantValue := 0 }, { name := "LOG2_ARRAY_FLOAT_INDEX_SCALE", type := .int, accessFlags := 25, slot := 8, constantValue := 0 }, { name := "LOG2_ARRAY_DOUBLE_INDEX_SCALE", type := .int, accessFlags := 25, slot := 9, constantValue := 0 }, { name := "LOG2_BYTE_BIT_SIZE", type := .int, accessFlags := 26, slot := 10, constantValue := 0 }, { name := "T_BOOLEAN", type := .int, accessFlags := 25, slot := 11, constantValue := 0 }, { name := "T_CHAR", type := .int, accessFlags := 25, slot := 12, constantValue := 0 }, { name := "T_FLOAT", type := .int, accessFlags := 25, slot := 13, constantValue := 0 }, { name := "T_DOUBLE", type := .int, accessFlags := 25, slot := 14, constantValue := 0 }, { name := "T_BYTE", type := .int, accessFlags := 25, slot := 15, constantValue := 0 }, { name := "T_SHORT", type := .int, accessFlags := 25, slot := 16, constantValue := 0 }, { name := "T_INT", type := .int, accessFlags := 25, slot := 17, constantValue := 0 }, { name := "T_LONG", type := .int, accessFlags := 25, slot := 18, constantValue := 0 }, { name := "JLA", type := (.object "jdk/internal/access/JavaLangAccess"), accessFlags := 26, slot := 19, constantValue := 0 }, { name := "SOFT_MAX_ARRAY_LENGTH", type := .int, accessFlags := 25, slot := 20, constantValue := 0 }]
  methods := #[k15m0]
  instanceTypes := #[]
  staticTypes := #[(.object "jdk/internal/misc/Unsafe"), .boolean, .int, .int, .int, .int, .int, .int, .int, .int, .int, .int, .int, .int, .int, .int, .int, .int, .int, (.object "jdk/internal/access/JavaLangAccess"), .int]
  resolved := Array.replicate 378 none
  statics := none }

def pool16 : Array CpInfo := pool [(1, u "java/lang/Cloneable"), (0, .class_ 1), (0, u "java/lang/Object"), (0, .class_ 3)] 3

/-- java/lang/Cloneable -/
def k16 : Class := { plain "java/lang/Cloneable" (some 0) with
  accessFlags := 1537
  interfaces := #[]
  cf := some (fileOf pool16 2 #[] #[] 1537 4 #[] #[])
  fields := #[]
  methods := #[]
  instanceTypes := #[]
  staticTypes := #[]
  resolved := Array.replicate 8 none
  statics := none }

/-- the primitive byte -/
def k17 : Class := { plain "byte" none with kind := .primitive 'B', accessFlags := 0x411 }
/-- [B -/
def k18 : Class := { plain "[B" (some 0) with kind := .array 17 .byte, interfaces := #[16, 2], accessFlags := 1041 }

/-- the primitive char -/
def k19 : Class := { plain "char" none with kind := .primitive 'C', accessFlags := 0x411 }
/-- [C -/
def k20 : Class := { plain "[C" (some 0) with kind := .array 19 .char, interfaces := #[16, 2], accessFlags := 1041 }

/-- the primitive int -/
def k21 : Class := { plain "int" none with kind := .primitive 'I', accessFlags := 0x411 }
/-- [I -/
def k22 : Class := { plain "[I" (some 0) with kind := .array 21 .int, interfaces := #[16, 2], accessFlags := 1041 }

def heap : Heap := #[{ cls := 7, slots := #[.long 0, .int 1, .null, .int 0, .null, .int 0, .int 0], vm := .statics 7 },
  { cls := 13, slots := #[.null, .null, .null], vm := .statics 13 }]
def classes : Array Class := #[k0, k1, k2, k3, k4, k5, k6, k7, k8, k9, k10, k11, k12, k13, k14, k15, k16, k17, k18, k19, k20, k21, k22]
def interned : List (Array UInt16 × Addr) := []
def slotsUsed : Nat := 10
def theMethod : MethodId := ⟨1, 1⟩
def args0 : Array Value := #[.int 1, .long 5, .long 7, .long 2, .int 65]
def aboutOver (below : List Frame) : State where
  vm := { classes := classes, interned := interned.toArray }
  heap := heap
  slotsUsed := slotsUsed
  threads := #[{ frames := .invoking theMethod args0 :: below }]
def below0 : List Frame := [.native { method := ⟨0, 0⟩, args := #[] }]
def about1 : State := aboutOver below0
def p0 : Program := .bare "" "" ""
def e0 : Env := launch0.env 0 0 0
theorem w_frames : about1.frames = Frame.invoking theMethod args0 :: below0 := rfl
set_option maxRecDepth 65536 in
theorem w_args : argsFit about1.vm theMethod args0 = true := by decide +kernel
set_option maxRecDepth 65536 in
theorem w_heap : heapFits about1 = true := by decide +kernel
set_option maxRecDepth 65536 in
theorem w_runnable : about1.curStatus? = some .runnable := by decide +kernel
set_option maxRecDepth 65536 in
theorem w_alone : about1.alone = true := by decide +kernel
set_option maxRecDepth 65536 in
theorem w_named : about1.methodNamed? x = some theMethod := by decide +kernel
set_option maxRecDepth 65536 in
theorem w_hears : about1.hears theMethod below0 = true := by decide +kernel
set_option maxRecDepth 65536 in
theorem w_ripe : about1.ripe theMethod args0 below0 = true := by decide +kernel
theorem w_running : about1.status = .running := rfl
set_option maxRecDepth 65536 in
theorem w_room : about1.hasRoom e0.platform room_1 = true :=
  launch0.hasRoom_least _ room_1 (by decide +kernel) (by decide +kernel) (by decide +kernel) (by decide +kernel) (by decide +kernel) (by decide +kernel)
theorem allAtoms_all (ts : List Jvm.Cond) (a : Array Jvm.Value) (st : Jvm.State) : (allAtoms ts).before a st = ts.all (fun c => c.before a st) := by
  induction ts with
  | nil => rfl
  | cons c t ih =>
    show (Jvm.Cond.and c (allAtoms t)).before a st = _
    rw [Jvm.Cond.before_and, ih, List.all_cons]
def words1 : List Jvm.Cond := Jvm.Cond.code x code maxLocals ret :: tables_1
/-- a 'code' word, met by the world's own term for the bytes: nothing is compared byte by byte -/
theorem code_word {y : MethodName} {bytes : ByteArray} {mx : Nat} {rt : Option FieldType} {a : Array Value} {s : State} {m : MethodId} {meth : Method} {c : Code} (h1 : s.methodNamed? y = some m) (h2 : s.vm.method? m = some meth) (h3 : meth.code = some c) (h4 : c.code = bytes)
    (h5 : (c.maxLocals == mx && c.exceptionTable.isEmpty && decide (c.maxStack ≤ mostOperands) && decide (meth.sig.returnType = rt) && !meth.locks && decide (parseMethodDescriptor y.desc = some meth.sig)) = true) : (Jvm.Cond.code y bytes mx rt).before a s = true := by
  simp only [Bool.and_eq_true, beq_iff_eq, Bool.not_eq_true', decide_eq_true_eq] at h5
  obtain ⟨⟨⟨⟨⟨g1, g2⟩, g3⟩, g4⟩, g5⟩, g6⟩ := h5
  simp [Cond.before, Cond.holds, Cond.value, h1, h2, h3, h4, g1, g2, g3, g4, g5, g6]
def isCode : Jvm.Cond → Bool
  | .code _ _ _ _ => true
  | _ => false
theorem all_split {L : List Jvm.Cond} {P : Jvm.Cond → Bool} (h1 : L.all (fun c => isCode c || P c) = true) (h2 : ∀ c ∈ L.filter isCode, P c = true) : L.all P = true := by
  refine List.all_eq_true.mpr fun c hc => ?_
  have h := List.all_eq_true.mp h1 c hc
  rcases Bool.eq_false_or_eq_true (isCode c) with hi | hi
  · exact h2 c (List.mem_filter.mpr ⟨hc, hi⟩)
  · simpa [hi] using h
set_option maxRecDepth 65536 in
theorem w_c0 : (Jvm.Cond.code x code maxLocals ret).before args0 about1 = true := code_word (m := ⟨1, 1⟩) (meth := k1m1) (c := k1c1) (by decide +kernel) rfl rfl rfl (by decide +kernel)
set_option maxRecDepth 65536 in
theorem w_c1 : (Jvm.Cond.code ({ cls := "java/lang/String", name := "<init>", desc := "([C)V" } : Jvm.MethodName) jdk_42_method_3_code (2 : Nat) (Option.none : Option Jvm.ClassFile.FieldType)).before args0 about1 = true := code_word (m := ⟨7, 1⟩) (meth := k7m1) (c := k7c1) (by decide +kernel) rfl rfl rfl (by decide +kernel)
set_option maxRecDepth 65536 in
theorem w_c2 : (Jvm.Cond.code ({ cls := "java/lang/String", name := "<init>", desc := "([CIILjava/lang/Void;)V" } : Jvm.MethodName) jdk_42_method_149_code (6 : Nat) (Option.none : Option Jvm.ClassFile.FieldType)).before args0 about1 = true := code_word (m := ⟨7, 6⟩) (meth := k7m6) (c := k7c6) (by decide +kernel) rfl rfl rfl (by decide +kernel)
set_option maxRecDepth 65536 in
theorem w_c3 : (Jvm.Cond.code ({ cls := "java/lang/Object", name := "<init>", desc := "()V" } : Jvm.MethodName) object_method_1_code (1 : Nat) (Option.none : Option Jvm.ClassFile.FieldType)).before args0 about1 = true := code_word (m := ⟨0, 0⟩) (meth := k0m0) (c := k0c0) (by decide +kernel) rfl rfl rfl (by decide +kernel)
set_option maxRecDepth 65536 in
theorem w_c4 : (Jvm.Cond.code ({ cls := "java/lang/StringUTF16", name := "compress", desc := "([CII)[B" } : Jvm.MethodName) jdk_52_method_16_code (6 : Nat) (Option.some (Jvm.ClassFile.FieldType.array Jvm.ClassFile.FieldType.byte))).before args0 about1 = true := code_word (m := ⟨8, 2⟩) (meth := k8m2) (c := k8c2) (by decide +kernel) rfl rfl rfl (by decide +kernel)
set_option maxRecDepth 65536 in
theorem w_c5 : (Jvm.Cond.code ({ cls := "java/lang/StringUTF16", name := "compress", desc := "([CI[BII)I" } : Jvm.MethodName) jdk_52_method_21_code (7 : Nat) (Option.some Jvm.ClassFile.FieldType.int)).before args0 about1 = true := code_word (m := ⟨8, 3⟩) (meth := k8m3) (c := k8c3) (by decide +kernel) rfl rfl rfl (by decide +kernel)
set_option maxRecDepth 65536 in
theorem w_c6 : (Jvm.Cond.code ({ cls := "java/lang/StringUTF16", name := "coderFromArrayLen", desc := "([BI)B" } : Jvm.MethodName) jdk_52_method_15_code (2 : Nat) (Option.some Jvm.ClassFile.FieldType.byte)).before args0 about1 = true := code_word (m := ⟨8, 1⟩) (meth := k8m1) (c := k8c1) (by decide +kernel) rfl rfl rfl (by decide +kernel)
set_option maxRecDepth 65536 in
theorem w_c7 : (Jvm.Cond.code ({ cls := "java/lang/String", name := "valueOf", desc := "(C)Ljava/lang/String;" } : Jvm.MethodName) jdk_42_method_139_code (1 : Nat) (Option.some (Jvm.ClassFile.FieldType.object "java/lang/String"))).before args0 about1 = true := code_word (m := ⟨7, 5⟩) (meth := k7m5) (c := k7c5) (by decide +kernel) rfl rfl rfl (by decide +kernel)
set_option maxRecDepth 65536 in
theorem w_c8 : (Jvm.Cond.code ({ cls := "java/lang/StringLatin1", name := "canEncode", desc := "(C)Z" } : Jvm.MethodName) jdk_43_method_3_code (1 : Nat) (Option.some Jvm.ClassFile.FieldType.boolean)).before args0 about1 = true := code_word (m := ⟨9, 2⟩) (meth := k9m2) (c := k9c2) (by decide +kernel) rfl rfl rfl (by decide +kernel)
set_option maxRecDepth 65536 in
theorem w_c9 : (Jvm.Cond.code ({ cls := "java/lang/StringLatin1", name := "toBytes", desc := "(C)[B" } : Jvm.MethodName) jdk_43_method_46_code (1 : Nat) (Option.some (Jvm.ClassFile.FieldType.array Jvm.ClassFile.FieldType.byte))).before args0 about1 = true := code_word (m := ⟨9, 3⟩) (meth := k9m3) (c := k9c3) (by decide +kernel) rfl rfl rfl (by decide +kernel)
set_option maxRecDepth 65536 in
theorem w_c10 : (Jvm.Cond.code ({ cls := "java/lang/String", name := "<init>", desc := "([BB)V" } : Jvm.MethodName) jdk_42_method_151_code (3 : Nat) (Option.none : Option Jvm.ClassFile.FieldType)).before args0 about1 = true := code_word (m := ⟨7, 7⟩) (meth := k7m7) (c := k7c7) (by decide +kernel) rfl rfl rfl (by decide +kernel)
set_option maxRecDepth 65536 in
theorem w_c11 : (Jvm.Cond.code ({ cls := "com/example/bounded_lock/boundedlock/engine/SemaphoreName", name := "<init>", desc := "(Ljava/lang/String;)V" } : Jvm.MethodName) prog_12_method_1_code (3 : Nat) (Option.none : Option Jvm.ClassFile.FieldType)).before args0 about1 = true := code_word (m := ⟨11, 0⟩) (meth := k11m0) (c := k11c0) (by decide +kernel) rfl rfl rfl (by decide +kernel)
set_option maxRecDepth 65536 in
theorem w_c12 : (Jvm.Cond.code ({ cls := "java/lang/Record", name := "<init>", desc := "()V" } : Jvm.MethodName) jdk_30_method_1_code (1 : Nat) (Option.none : Option Jvm.ClassFile.FieldType)).before args0 about1 = true := code_word (m := ⟨10, 0⟩) (meth := k10m0) (c := k10c0) (by decide +kernel) rfl rfl rfl (by decide +kernel)
set_option maxRecDepth 65536 in
theorem w_c13 : (Jvm.Cond.code ({ cls := "java/util/Objects", name := "requireNonNull", desc := "(Ljava/lang/Object;Ljava/lang/String;)Ljava/lang/Object;" } : Jvm.MethodName) jdk_31_method_11_code (2 : Nat) (Option.some (Jvm.ClassFile.FieldType.object "java/lang/Object"))).before args0 about1 = true := code_word (m := ⟨12, 1⟩) (meth := k12m1) (c := k12c1) (by decide +kernel) rfl rfl rfl (by decide +kernel)
set_option maxRecDepth 65536 in
theorem w_c14 : (Jvm.Cond.code ({ cls := "java/lang/String", name := "length", desc := "()I" } : Jvm.MethodName) jdk_42_method_54_code (1 : Nat) (Option.some Jvm.ClassFile.FieldType.int)).before args0 about1 = true := code_word (m := ⟨7, 2⟩) (meth := k7m2) (c := k7c2) (by decide +kernel) rfl rfl rfl (by decide +kernel)
set_option maxRecDepth 65536 in
theorem w_c15 : (Jvm.Cond.code ({ cls := "java/lang/String", name := "coder", desc := "()B" } : Jvm.MethodName) jdk_42_method_152_code (1 : Nat) (Option.some Jvm.ClassFile.FieldType.byte)).before args0 about1 = true := code_word (m := ⟨7, 8⟩) (meth := k7m8) (c := k7c8) (by decide +kernel) rfl rfl rfl (by decide +kernel)
set_option maxRecDepth 65536 in
theorem w_c16 : (Jvm.Cond.code ({ cls := "java/lang/String", name := "charAt", desc := "(I)C" } : Jvm.MethodName) jdk_42_method_56_code (2 : Nat) (Option.some Jvm.ClassFile.FieldType.char)).before args0 about1 = true := code_word (m := ⟨7, 4⟩) (meth := k7m4) (c := k7c4) (by decide +kernel) rfl rfl rfl (by decide +kernel)
set_option maxRecDepth 65536 in
theorem w_c17 : (Jvm.Cond.code ({ cls := "java/lang/String", name := "isLatin1", desc := "()Z" } : Jvm.MethodName) jdk_42_method_154_code (1 : Nat) (Option.some Jvm.ClassFile.FieldType.boolean)).before args0 about1 = true := code_word (m := ⟨7, 9⟩) (meth := k7m9) (c := k7c9) (by decide +kernel) rfl rfl rfl (by decide +kernel)
set_option maxRecDepth 65536 in
theorem w_c18 : (Jvm.Cond.code ({ cls := "java/lang/StringLatin1", name := "charAt", desc := "([BI)C" } : Jvm.MethodName) jdk_43_method_2_code (2 : Nat) (Option.some Jvm.ClassFile.FieldType.char)).before args0 about1 = true := code_word (m := ⟨9, 1⟩) (meth := k9m1) (c := k9c1) (by decide +kernel) rfl rfl rfl (by decide +kernel)
set_option maxRecDepth 65536 in
theorem w_c19 : (Jvm.Cond.code ({ cls := "java/lang/String", name := "checkIndex", desc := "(II)V" } : Jvm.MethodName) jdk_42_method_155_code (2 : Nat) (Option.none : Option Jvm.ClassFile.FieldType)).before args0 about1 = true := code_word (m := ⟨7, 10⟩) (meth := k7m10) (c := k7c10) (by decide +kernel) rfl rfl rfl (by decide +kernel)
set_option maxRecDepth 65536 in
theorem w_c20 : (Jvm.Cond.code ({ cls := "jdk/internal/util/Preconditions", name := "checkIndex", desc := "(IILjava/util/function/BiFunction;)I" } : Jvm.MethodName) jdk_41_method_11_code (3 : Nat) (Option.some Jvm.ClassFile.FieldType.int)).before args0 about1 = true := code_word (m := ⟨13, 1⟩) (meth := k13m1) (c := k13c1) (by decide +kernel) rfl rfl rfl (by decide +kernel)
set_option maxRecDepth 65536 in
theorem w_c21 : (Jvm.Cond.code ({ cls := "com/example/bounded_lock/boundedlock/engine/SemaphoreName", name := "isNameCharacter", desc := "(C)Z" } : Jvm.MethodName) prog_12_method_2_code (1 : Nat) (Option.some Jvm.ClassFile.FieldType.boolean)).before args0 about1 = true := code_word (m := ⟨11, 1⟩) (meth := k11m1) (c := k11c1) (by decide +kernel) rfl rfl rfl (by decide +kernel)
set_option maxRecDepth 65536 in
theorem w_c22 : (Jvm.Cond.code ({ cls := "java/lang/String", name := "isEmpty", desc := "()Z" } : Jvm.MethodName) jdk_42_method_55_code (1 : Nat) (Option.some Jvm.ClassFile.FieldType.boolean)).before args0 about1 = true := code_word (m := ⟨7, 3⟩) (meth := k7m3) (c := k7c3) (by decide +kernel) rfl rfl rfl (by decide +kernel)
set_option maxRecDepth 65536 in
theorem w_c23 : (Jvm.Cond.code ({ cls := "com/example/bounded_lock/boundedlock/engine/Lease", name := "<init>", desc := "(Ljava/lang/String;Lcom/example/bounded_lock/boundedlock/engine/SemaphoreName;IJLjava/lang/String;J)V" } : Jvm.MethodName) prog_9_method_1_code (9 : Nat) (Option.none : Option Jvm.ClassFile.FieldType)).before args0 about1 = true := code_word (m := ⟨14, 0⟩) (meth := k14m0) (c := k14c0) (by decide +kernel) rfl rfl rfl (by decide +kernel)
set_option maxRecDepth 65536 in
theorem w_c24 : (Jvm.Cond.code ({ cls := "com/example/bounded_lock/boundedlock/engine/Lease", name := "withTtlMs", desc := "(J)Lcom/example/bounded_lock/boundedlock/engine/Lease;" } : Jvm.MethodName) prog_9_method_2_code (3 : Nat) (Option.some (Jvm.ClassFile.FieldType.object "com/example/bounded_lock/boundedlock/engine/Lease"))).before args0 about1 = true := code_word (m := ⟨14, 1⟩) (meth := k14m1) (c := k14c1) (by decide +kernel) rfl rfl rfl (by decide +kernel)
set_option maxRecDepth 65536 in
theorem w_c25 : (Jvm.Cond.code ({ cls := "com/example/bounded_lock/boundedlock/engine/Lease", name := "id", desc := "()Ljava/lang/String;" } : Jvm.MethodName) prog_9_method_6_code (1 : Nat) (Option.some (Jvm.ClassFile.FieldType.object "java/lang/String"))).before args0 about1 = true := code_word (m := ⟨14, 2⟩) (meth := k14m2) (c := k14c2) (by decide +kernel) rfl rfl rfl (by decide +kernel)
set_option maxRecDepth 65536 in
theorem w_c26 : (Jvm.Cond.code ({ cls := "com/example/bounded_lock/boundedlock/engine/Lease", name := "name", desc := "()Lcom/example/bounded_lock/boundedlock/engine/SemaphoreName;" } : Jvm.MethodName) prog_9_method_7_code (1 : Nat) (Option.some (Jvm.ClassFile.FieldType.object "com/example/bounded_lock/boundedlock/engine/SemaphoreName"))).before args0 about1 = true := code_word (m := ⟨14, 3⟩) (meth := k14m3) (c := k14c3) (by decide +kernel) rfl rfl rfl (by decide +kernel)
set_option maxRecDepth 65536 in
theorem w_c27 : (Jvm.Cond.code ({ cls := "com/example/bounded_lock/boundedlock/engine/Lease", name := "permits", desc := "()I" } : Jvm.MethodName) prog_9_method_8_code (1 : Nat) (Option.some Jvm.ClassFile.FieldType.int)).before args0 about1 = true := code_word (m := ⟨14, 4⟩) (meth := k14m4) (c := k14c4) (by decide +kernel) rfl rfl rfl (by decide +kernel)
set_option maxRecDepth 65536 in
theorem w_c28 : (Jvm.Cond.code ({ cls := "com/example/bounded_lock/boundedlock/engine/Lease", name := "fence", desc := "()J" } : Jvm.MethodName) prog_9_method_9_code (1 : Nat) (Option.some Jvm.ClassFile.FieldType.long)).before args0 about1 = true := code_word (m := ⟨14, 5⟩) (meth := k14m5) (c := k14c5) (by decide +kernel) rfl rfl rfl (by decide +kernel)
set_option maxRecDepth 65536 in
theorem w_c29 : (Jvm.Cond.code ({ cls := "com/example/bounded_lock/boundedlock/engine/Lease", name := "owner", desc := "()Ljava/lang/String;" } : Jvm.MethodName) prog_9_method_10_code (1 : Nat) (Option.some (Jvm.ClassFile.FieldType.object "java/lang/String"))).before args0 about1 = true := code_word (m := ⟨14, 6⟩) (meth := k14m6) (c := k14c6) (by decide +kernel) rfl rfl rfl (by decide +kernel)
set_option maxRecDepth 65536 in
theorem w_c30 : (Jvm.Cond.code ({ cls := "com/example/bounded_lock/boundedlock/engine/Lease", name := "ttlMs", desc := "()J" } : Jvm.MethodName) prog_9_method_11_code (1 : Nat) (Option.some Jvm.ClassFile.FieldType.long)).before args0 about1 = true := code_word (m := ⟨14, 7⟩) (meth := k14m7) (c := k14c7) (by decide +kernel) rfl rfl rfl (by decide +kernel)
def codes1 : List Jvm.Cond := [Jvm.Cond.code x code maxLocals ret, Jvm.Cond.code ({ cls := "java/lang/String", name := "<init>", desc := "([C)V" } : Jvm.MethodName) jdk_42_method_3_code (2 : Nat) (Option.none : Option Jvm.ClassFile.FieldType), Jvm.Cond.code ({ cls := "java/lang/String", name := "<init>", desc := "([CIILjava/lang/Void;)V" } : Jvm.MethodName) jdk_42_method_149_code (6 : Nat) (Option.none : Option Jvm.ClassFile.FieldType), Jvm.Cond.code ({ cls := "java/lang/Object", name := "<init>", desc := "()V" } : Jvm.MethodName) object_method_1_code (1 : Nat) (Option.none : Option Jvm.ClassFile.FieldType), Jvm.Cond.code ({ cls := "java/lang/StringUTF16", name := "compress", desc := "([CII)[B" } : Jvm.MethodName) jdk_52_method_16_code (6 : Nat) (Option.some (Jvm.ClassFile.FieldType.array Jvm.ClassFile.FieldType.byte)), Jvm.Cond.code ({ cls := "java/lang/StringUTF16", name := "compress", desc := "([CI[BII)I" } : Jvm.MethodName) jdk_52_method_21_code (7 : Nat) (Option.some Jvm.ClassFile.FieldType.int), Jvm.Cond.code ({ cls := "java/lang/StringUTF16", name := "coderFromArrayLen", desc := "([BI)B" } : Jvm.MethodName) jdk_52_method_15_code (2 : Nat) (Option.some Jvm.ClassFile.FieldType.byte), Jvm.Cond.code ({ cls := "java/lang/String", name := "valueOf", desc := "(C)Ljava/lang/String;" } : Jvm.MethodName) jdk_42_method_139_code (1 : Nat) (Option.some (Jvm.ClassFile.FieldType.object "java/lang/String")), Jvm.Cond.code ({ cls := "java/lang/StringLatin1", name := "canEncode", desc := "(C)Z" } : Jvm.MethodName) jdk_43_method_3_code (1 : Nat) (Option.some Jvm.ClassFile.FieldType.boolean), Jvm.Cond.code ({ cls := "java/lang/StringLatin1", name := "toBytes", desc := "(C)[B" } : Jvm.MethodName) jdk_43_method_46_code (1 : Nat) (Option.some (Jvm.ClassFile.FieldType.array Jvm.ClassFile.FieldType.byte)), Jvm.Cond.code ({ cls := "java/lang/String", name := "<init>", desc := "([BB)V" } : Jvm.MethodName) jdk_42_method_151_code (3 : Nat) (Option.none : Option Jvm.ClassFile.FieldType), Jvm.Cond.code ({ cls := "com/example/bounded_lock/boundedlock/engine/SemaphoreName", name := "<init>", desc := "(Ljava/lang/String;)V" } : Jvm.MethodName) prog_12_method_1_code (3 : Nat) (Option.none : Option Jvm.ClassFile.FieldType), Jvm.Cond.code ({ cls := "java/lang/Record", name := "<init>", desc := "()V" } : Jvm.MethodName) jdk_30_method_1_code (1 : Nat) (Option.none : Option Jvm.ClassFile.FieldType), Jvm.Cond.code ({ cls := "java/util/Objects", name := "requireNonNull", desc := "(Ljava/lang/Object;Ljava/lang/String;)Ljava/lang/Object;" } : Jvm.MethodName) jdk_31_method_11_code (2 : Nat) (Option.some (Jvm.ClassFile.FieldType.object "java/lang/Object")), Jvm.Cond.code ({ cls := "java/lang/String", name := "length", desc := "()I" } : Jvm.MethodName) jdk_42_method_54_code (1 : Nat) (Option.some Jvm.ClassFile.FieldType.int), Jvm.Cond.code ({ cls := "java/lang/String", name := "coder", desc := "()B" } : Jvm.MethodName) jdk_42_method_152_code (1 : Nat) (Option.some Jvm.ClassFile.FieldType.byte), Jvm.Cond.code ({ cls := "java/lang/String", name := "charAt", desc := "(I)C" } : Jvm.MethodName) jdk_42_method_56_code (2 : Nat) (Option.some Jvm.ClassFile.FieldType.char), Jvm.Cond.code ({ cls := "java/lang/String", name := "isLatin1", desc := "()Z" } : Jvm.MethodName) jdk_42_method_154_code (1 : Nat) (Option.some Jvm.ClassFile.FieldType.boolean), Jvm.Cond.code ({ cls := "java/lang/StringLatin1", name := "charAt", desc := "([BI)C" } : Jvm.MethodName) jdk_43_method_2_code (2 : Nat) (Option.some Jvm.ClassFile.FieldType.char), Jvm.Cond.code ({ cls := "java/lang/String", name := "checkIndex", desc := "(II)V" } : Jvm.MethodName) jdk_42_method_155_code (2 : Nat) (Option.none : Option Jvm.ClassFile.FieldType), Jvm.Cond.code ({ cls := "jdk/internal/util/Preconditions", name := "checkIndex", desc := "(IILjava/util/function/BiFunction;)I" } : Jvm.MethodName) jdk_41_method_11_code (3 : Nat) (Option.some Jvm.ClassFile.FieldType.int), Jvm.Cond.code ({ cls := "com/example/bounded_lock/boundedlock/engine/SemaphoreName", name := "isNameCharacter", desc := "(C)Z" } : Jvm.MethodName) prog_12_method_2_code (1 : Nat) (Option.some Jvm.ClassFile.FieldType.boolean), Jvm.Cond.code ({ cls := "java/lang/String", name := "isEmpty", desc := "()Z" } : Jvm.MethodName) jdk_42_method_55_code (1 : Nat) (Option.some Jvm.ClassFile.FieldType.boolean), Jvm.Cond.code ({ cls := "com/example/bounded_lock/boundedlock/engine/Lease", name := "<init>", desc := "(Ljava/lang/String;Lcom/example/bounded_lock/boundedlock/engine/SemaphoreName;IJLjava/lang/String;J)V" } : Jvm.MethodName) prog_9_method_1_code (9 : Nat) (Option.none : Option Jvm.ClassFile.FieldType), Jvm.Cond.code ({ cls := "com/example/bounded_lock/boundedlock/engine/Lease", name := "withTtlMs", desc := "(J)Lcom/example/bounded_lock/boundedlock/engine/Lease;" } : Jvm.MethodName) prog_9_method_2_code (3 : Nat) (Option.some (Jvm.ClassFile.FieldType.object "com/example/bounded_lock/boundedlock/engine/Lease")), Jvm.Cond.code ({ cls := "com/example/bounded_lock/boundedlock/engine/Lease", name := "id", desc := "()Ljava/lang/String;" } : Jvm.MethodName) prog_9_method_6_code (1 : Nat) (Option.some (Jvm.ClassFile.FieldType.object "java/lang/String")), Jvm.Cond.code ({ cls := "com/example/bounded_lock/boundedlock/engine/Lease", name := "name", desc := "()Lcom/example/bounded_lock/boundedlock/engine/SemaphoreName;" } : Jvm.MethodName) prog_9_method_7_code (1 : Nat) (Option.some (Jvm.ClassFile.FieldType.object "com/example/bounded_lock/boundedlock/engine/SemaphoreName")), Jvm.Cond.code ({ cls := "com/example/bounded_lock/boundedlock/engine/Lease", name := "permits", desc := "()I" } : Jvm.MethodName) prog_9_method_8_code (1 : Nat) (Option.some Jvm.ClassFile.FieldType.int), Jvm.Cond.code ({ cls := "com/example/bounded_lock/boundedlock/engine/Lease", name := "fence", desc := "()J" } : Jvm.MethodName) prog_9_method_9_code (1 : Nat) (Option.some Jvm.ClassFile.FieldType.long), Jvm.Cond.code ({ cls := "com/example/bounded_lock/boundedlock/engine/Lease", name := "owner", desc := "()Ljava/lang/String;" } : Jvm.MethodName) prog_9_method_10_code (1 : Nat) (Option.some (Jvm.ClassFile.FieldType.object "java/lang/String")), Jvm.Cond.code ({ cls := "com/example/bounded_lock/boundedlock/engine/Lease", name := "ttlMs", desc := "()J" } : Jvm.MethodName) prog_9_method_11_code (1 : Nat) (Option.some Jvm.ClassFile.FieldType.long)]
set_option maxRecDepth 65536 in
theorem codes_eq : words1.filter isCode = codes1 := rfl
theorem w_codes : ∀ c ∈ words1.filter isCode, c.before args0 about1 = true := by
  rw [codes_eq]
  intro c hc
  simp only [codes1, List.mem_cons, List.not_mem_nil, or_false] at hc
  rcases hc with rfl | rfl | rfl | rfl | rfl | rfl | rfl | rfl | rfl | rfl | rfl | rfl | rfl | rfl | rfl | rfl | rfl | rfl | rfl | rfl | rfl | rfl | rfl | rfl | rfl | rfl | rfl | rfl | rfl | rfl | rfl
  · exact w_c0
  · exact w_c1
  · exact w_c2
  · exact w_c3
  · exact w_c4
  · exact w_c5
  · exact w_c6
  · exact w_c7
  · exact w_c8
  · exact w_c9
  · exact w_c10
  · exact w_c11
  · exact w_c12
  · exact w_c13
  · exact w_c14
  · exact w_c15
  · exact w_c16
  · exact w_c17
  · exact w_c18
  · exact w_c19
  · exact w_c20
  · exact w_c21
  · exact w_c22
  · exact w_c23
  · exact w_c24
  · exact w_c25
  · exact w_c26
  · exact w_c27
  · exact w_c28
  · exact w_c29
  · exact w_c30
set_option maxRecDepth 65536 in
theorem w_t1 : (words1.take 24).all (fun c => isCode c || c.before args0 about1) = true := by decide +kernel
set_option maxRecDepth 65536 in
theorem w_t2 : ((words1.drop 24).take 24).all (fun c => isCode c || c.before args0 about1) = true := by decide +kernel
set_option maxRecDepth 65536 in
theorem w_t3 : (((words1.drop 24).drop 24).take 24).all (fun c => isCode c || c.before args0 about1) = true := by decide +kernel
set_option maxRecDepth 65536 in
theorem w_t4 : ((((words1.drop 24).drop 24).drop 24).take 24).all (fun c => isCode c || c.before args0 about1) = true := by decide +kernel
set_option maxRecDepth 65536 in
theorem w_t5 : (((((words1.drop 24).drop 24).drop 24).drop 24).take 24).all (fun c => isCode c || c.before args0 about1) = true := by decide +kernel
set_option maxRecDepth 65536 in
theorem w_t6 : ((((((words1.drop 24).drop 24).drop 24).drop 24).drop 24).take 24).all (fun c => isCode c || c.before args0 about1) = true := by decide +kernel
set_option maxRecDepth 65536 in
theorem w_t7 : ((((((words1.drop 24).drop 24).drop 24).drop 24).drop 24).drop 24).all (fun c => isCode c || c.before args0 about1) = true := by decide +kernel
theorem w_tables : (allAtoms (Jvm.Cond.code x code maxLocals ret :: tables_1)).before args0 about1 = true := by
  rw [allAtoms_all]
  show words1.all (fun c => c.before args0 about1) = true
  refine all_split ?_ w_codes
  rw [← List.take_append_drop 24 words1, List.all_append, w_t1, ← List.take_append_drop 24 (words1.drop 24), List.all_append, w_t2, ← List.take_append_drop 24 ((words1.drop 24).drop 24), List.all_append, w_t3, ← List.take_append_drop 24 (((words1.drop 24).drop 24).drop 24), List.all_append, w_t4, ← List.take_append_drop 24 ((((words1.drop 24).drop 24).drop 24).drop 24), List.all_append, w_t5, ← List.take_append_drop 24 (((((words1.drop 24).drop 24).drop 24).drop 24).drop 24), List.all_append, w_t6, w_t7]
  rfl
set_option maxRecDepth 65536 in
theorem w_rest : rest_1_c.before args0 about1 = true := by decide +kernel
set_option maxRecDepth 65536 in
theorem w_case : (Jvm.Cond.and given_1 narrow_1).before args0 about1 = true := by decide +kernel
set_option maxRecDepth 65536 in
theorem w_consts : constsHeld consts_1 about1 := Jvm.Lit.constsHeldB_iff.mp (by decide +kernel)
theorem w_applies : (headSpec (Jvm.Cond.code x code maxLocals ret :: tables_1) room_1).applies x e0.platform about1 = true :=
  (Spec.applies_iff w_frames).mpr ⟨w_running, w_runnable, w_alone, w_named, w_hears, w_ripe, w_room, w_tables⟩
theorem atStart : AtStart classFile x code maxLocals ret World_1 tables_1 room_1 Calls_1 rest_1 Pre_1 launch0 p0 e0 about1 theMethod args0 below0 :=
  ⟨lists_1, trivial, launch0.admits_env _ _ _, launch0.least_env, fairChoices_fair.cas, fairChoices_fair.clock, w_frames, w_args, w_heap, w_applies, ⟨w_consts, trivial⟩, w_rest, w_case⟩
end start1
theorem witness_1 : WitnessClaimed_1 := ⟨start1.p0, start1.e0, start1.about1, start1.theMethod, start1.args0, start1.below0, start1.atStart⟩
end Jvm.Pilot.@@N@@
