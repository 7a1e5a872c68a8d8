import JvmDerived
import JvmDerived.Pilot.@@N@@Statement
import JvmDerived.Pilot.@@N@@Code
set_option linter.unusedVariables false
set_option linter.unusedSimpArgs false
namespace Jvm.RoadKit
open Sem ClassFile Op Lib Jvm.Stand Jvm.Free Jvm.LawKit
/-- from U the run comes to an end of the invocation at which P holds -/
def Wp (p : Program) (e : Env) (below : List Frame) (P : State → Outcome → Prop) (U : State) : Prop :=
  ∃ s₂ o, Steps p.tables e below U s₂ ∧ s₂.status = .running ∧ Ended s₂ below o ∧ P s₂ o
theorem Wp.of {p : Program} {e : Env} {below : List Frame} {P : State → Outcome → Prop} {U U' : State} (f : ∀ t, Steps p.tables e below U' t → Steps p.tables e below U t) (k : Wp p e below P U') : Wp p e below P U := by
  obtain ⟨s2, o, a, b⟩ := k; exact ⟨s2, o, f _ a, b⟩
theorem Wp.tr {p : Program} {e : Env} {below : List Frame} {P : State → Outcome → Prop} {U U' : State} (f : Steps p.tables e below U U') (k : Wp p e below P U') : Wp p e below P U := by
  obtain ⟨s2, o, a, b⟩ := k; exact ⟨s2, o, f.trans a, b⟩
theorem Wp.cast {p : Program} {e : Env} {below : List Frame} {P : State → Outcome → Prop} {T : State} {g g' : JFrame} (q : g = g') (k : Wp p e below P (T.setTop g')) : Wp p e below P (T.setTop g) := q ▸ k
/-- where the walk stands: the library's Stand, what stays the same throughout a body, the heap, that only new places were written, that the start's cells are as they were -/
def Sd (Z : State) (n0 kk : Nat) (code : ByteArray) (ml : Nat) (own nm : String) (ret : Option FieldType) (h : Heap) (p : Program) (l : Launch) (e : Env) (R : Room) (s : State) (m : MethodId) (args : Array Value) (below : List Frame) (meth : Method) (c : Code) (T : State) (locs : List Loc) (cells slots : Nat) : Prop :=
  Stand p l e R s m args below meth c T locs cells slots ∧ (p.tables.exec = Jvm.exec ∧ c.code = code ∧ c.maxLocals = ml ∧ s.vm.findClass own = some m.cls ∧ Z.Warmed39 s.vm ∧ meth.sig.returnType = ret ∧ meth.name = nm ∧ meth.locks = false) ∧ T.heap = h ∧ Fr n0 locs ∧ Old Z n0 h ∧ kk ≤ h.size
/-- an instruction of n bytes and the pc behind it -/
def Dc (code : ByteArray) (pc : Nat) (i : Instr) (n pc' : Nat) : Prop := decode code pc = .ok (i, n) ∧ pc + n = pc'
/-- a branch of three bytes, its target and the pc behind it -/
def Bc (code : ByteArray) (pc : Nat) (f : Int → Instr) (t pc' : Nat) : Prop := ∃ o, decode code pc = .ok (f o, 3) ∧ 0 ≤ (pc : Int) + o ∧ ((pc : Int) + o).toNat = t ∧ pc + 3 = pc'

section Sd
variable {Z : State} {n0 kk : Nat} {code : ByteArray} {ml : Nat} {own nm : String} {ret : Option FieldType} {h : Heap} {p : Program} {l : Launch} {e : Env} {R : Room} {s : State} {m : MethodId} {args : Array Value} {below : List Frame} {meth : Method} {c : Code} {T : State} {locs : List Loc} {cells slots : Nat} {P : State → Outcome → Prop} {a0 : Array Value}
theorem Sd.st (X : Sd Z n0 kk code ml own nm ret h p l e R s m args below meth c T locs cells slots) : Stand p l e R s m args below meth c T locs cells slots := X.1
theorem Sd.hx (X : Sd Z n0 kk code ml own nm ret h p l e R s m args below meth c T locs cells slots) : p.tables.exec = Jvm.exec := X.2.1.1
theorem Sd.hb (X : Sd Z n0 kk code ml own nm ret h p l e R s m args below meth c T locs cells slots) {pc : Nat} {r : Except DecodeError (Instr × Nat)} (q : decode code pc = r) : decode c.code pc = r := X.2.1.2.1 ▸ q
theorem Sd.hml (X : Sd Z n0 kk code ml own nm ret h p l e R s m args below meth c T locs cells slots) : c.maxLocals = ml := X.2.1.2.2.1
theorem Sd.hown (X : Sd Z n0 kk code ml own nm ret h p l e R s m args below meth c T locs cells slots) : s.vm.findClass own = some m.cls := X.2.1.2.2.2.1
theorem Sd.hZ (X : Sd Z n0 kk code ml own nm ret h p l e R s m args below meth c T locs cells slots) : Z.Warmed39 s.vm := X.2.1.2.2.2.2.1
theorem Sd.hret (X : Sd Z n0 kk code ml own nm ret h p l e R s m args below meth c T locs cells slots) : meth.sig.returnType = ret := X.2.1.2.2.2.2.2.1
theorem Sd.hnm (X : Sd Z n0 kk code ml own nm ret h p l e R s m args below meth c T locs cells slots) : meth.name = nm := X.2.1.2.2.2.2.2.2.1
theorem Sd.hlk (X : Sd Z n0 kk code ml own nm ret h p l e R s m args below meth c T locs cells slots) : meth.locks = false := X.2.1.2.2.2.2.2.2.2
theorem Sd.eh (X : Sd Z n0 kk code ml own nm ret h p l e R s m args below meth c T locs cells slots) : T.heap = h := X.2.2.1
theorem Sd.fr (X : Sd Z n0 kk code ml own nm ret h p l e R s m args below meth c T locs cells slots) : Fr n0 locs := X.2.2.2.1
theorem Sd.old (X : Sd Z n0 kk code ml own nm ret h p l e R s m args below meth c T locs cells slots) : Old Z n0 h := X.2.2.2.2.1
theorem Sd.hkk (X : Sd Z n0 kk code ml own nm ret h p l e R s m args below meth c T locs cells slots) : kk ≤ h.size := X.2.2.2.2.2
theorem Sd.mk' {h' : Heap} {T' : State} {locs' : List Loc} {c' s' : Nat} (X : Sd Z n0 kk code ml own nm ret h p l e R s m args below meth c T locs cells slots) (Y : Stand p l e R s m args below meth c T' locs' c' s') (q1 : T'.heap = h') (q2 : Fr n0 locs') (q3 : Old Z n0 h') (q4 : h.size ≤ h'.size) : Sd Z n0 kk code ml own nm ret h' p l e R s m args below meth c T' locs' c' s' := ⟨Y, X.2.1, q1, q2, q3, Nat.le_trans X.hkk q4⟩
end Sd
section Steps
variable {Z : State} {n0 kk : Nat} {code : ByteArray} {ml : Nat} {own nm : String} {ret : Option FieldType} {h : Heap} {p : Program} {l : Launch} {e : Env} {R : Room} {s : State} {m : MethodId} {args : Array Value} {below : List Frame} {meth : Method} {c : Code} {T : State} {locs : List Loc} {cells slots : Nat} {P : State → Outcome → Prop} {a0 : Array Value} {pc pc' : Nat} {L : Array Slot} {S : List Value}
theorem w_iloadN (X : Sd Z n0 kk code ml own nm ret h p l e R s m args below meth c T locs cells slots) {k : Fin 4} {v : Int32} (hd : Dc code pc (.iload_n k) 1 pc') (hl : L[k.val]? = some (.val (.int v))) (K : Wp p e below P (T.setTop (mkF m pc' L (.int v :: S)))) : Wp p e below P (T.setTop (mkF m pc L S)) := by
  obtain ⟨hd, rfl⟩ := hd
  exact Wp.of (fun _ k => XS.iloadN X.st.here X.hx rfl (X.hb hd) hl k) K
theorem w_iload (X : Sd Z n0 kk code ml own nm ret h p l e R s m args below meth c T locs cells slots) {k : Nat} {v : Int32} (hd : Dc code pc (.iload k) 2 pc') (hl : L[k]? = some (.val (.int v))) (K : Wp p e below P (T.setTop (mkF m pc' L (.int v :: S)))) : Wp p e below P (T.setTop (mkF m pc L S)) := by
  obtain ⟨hd, rfl⟩ := hd
  exact Wp.of (fun _ k => XS.iload X.st.here X.hx rfl (X.hb hd) hl k) K
theorem w_lloadN (X : Sd Z n0 kk code ml own nm ret h p l e R s m args below meth c T locs cells slots) {k : Fin 4} {v : Int64} (hd : Dc code pc (.lload_n k) 1 pc') (hl : L[k.val]? = some (.val (.long v))) (K : Wp p e below P (T.setTop (mkF m pc' L (.long v :: S)))) : Wp p e below P (T.setTop (mkF m pc L S)) := by
  obtain ⟨hd, rfl⟩ := hd
  exact Wp.of (fun _ k => XS.lloadN X.st.here X.hx rfl (X.hb hd) hl k) K
theorem w_lload (X : Sd Z n0 kk code ml own nm ret h p l e R s m args below meth c T locs cells slots) {k : Nat} {v : Int64} (hd : Dc code pc (.lload k) 2 pc') (hl : L[k]? = some (.val (.long v))) (K : Wp p e below P (T.setTop (mkF m pc' L (.long v :: S)))) : Wp p e below P (T.setTop (mkF m pc L S)) := by
  obtain ⟨hd, rfl⟩ := hd
  exact Wp.of (fun _ k => XS.lload X.st.here X.hx rfl (X.hb hd) hl k) K
theorem w_aloadN (X : Sd Z n0 kk code ml own nm ret h p l e R s m args below meth c T locs cells slots) {k : Fin 4} {v : Value} (hd : Dc code pc (.aload_n k) 1 pc') (hl : L[k.val]? = some (.val v)) (hv : v.isRef = true) (K : Wp p e below P (T.setTop (mkF m pc' L (v :: S)))) : Wp p e below P (T.setTop (mkF m pc L S)) := by
  obtain ⟨hd, rfl⟩ := hd
  exact Wp.of (fun _ k => XS.aloadN X.st.here X.hx rfl (X.hb hd) hl hv k) K
theorem w_aload (X : Sd Z n0 kk code ml own nm ret h p l e R s m args below meth c T locs cells slots) {k : Nat} {v : Value} (hd : Dc code pc (.aload k) 2 pc') (hl : L[k]? = some (.val v)) (hv : v.isRef = true) (K : Wp p e below P (T.setTop (mkF m pc' L (v :: S)))) : Wp p e below P (T.setTop (mkF m pc L S)) := by
  obtain ⟨hd, rfl⟩ := hd
  exact Wp.of (fun _ k => XS.aload X.st.here X.hx rfl (X.hb hd) hl hv k) K
theorem w_istoreN (X : Sd Z n0 kk code ml own nm ret h p l e R s m args below meth c T locs cells slots) {k : Fin 4} {v : Int32} (L' : Array Slot) (hd : Dc code pc (.istore_n k) 1 pc') (hl : storeLocals L k.val (.int v) = some L') (K : Wp p e below P (T.setTop (mkF m pc' L' S))) : Wp p e below P (T.setTop (mkF m pc L (.int v :: S))) := by
  obtain ⟨hd, rfl⟩ := hd
  exact Wp.of (fun _ k => XS.istoreN X.st.here X.hx rfl (X.hb hd) rfl hl k) K
theorem w_istore (X : Sd Z n0 kk code ml own nm ret h p l e R s m args below meth c T locs cells slots) {k : Nat} {v : Int32} (L' : Array Slot) (hd : Dc code pc (.istore k) 2 pc') (hl : storeLocals L k (.int v) = some L') (K : Wp p e below P (T.setTop (mkF m pc' L' S))) : Wp p e below P (T.setTop (mkF m pc L (.int v :: S))) := by
  obtain ⟨hd, rfl⟩ := hd
  exact Wp.of (fun _ k => XS.istore X.st.here X.hx rfl (X.hb hd) rfl hl k) K
theorem w_lstoreN (X : Sd Z n0 kk code ml own nm ret h p l e R s m args below meth c T locs cells slots) {k : Fin 4} {v : Int64} (L' : Array Slot) (hd : Dc code pc (.lstore_n k) 1 pc') (hl : storeLocals L k.val (.long v) = some L') (K : Wp p e below P (T.setTop (mkF m pc' L' S))) : Wp p e below P (T.setTop (mkF m pc L (.long v :: S))) := by
  obtain ⟨hd, rfl⟩ := hd
  exact Wp.of (fun _ k => XS.lstoreN X.st.here X.hx rfl (X.hb hd) rfl hl k) K
theorem w_lstore (X : Sd Z n0 kk code ml own nm ret h p l e R s m args below meth c T locs cells slots) {k : Nat} {v : Int64} (L' : Array Slot) (hd : Dc code pc (.lstore k) 2 pc') (hl : storeLocals L k (.long v) = some L') (K : Wp p e below P (T.setTop (mkF m pc' L' S))) : Wp p e below P (T.setTop (mkF m pc L (.long v :: S))) := by
  obtain ⟨hd, rfl⟩ := hd
  exact Wp.of (fun _ k => XS.lstore X.st.here X.hx rfl (X.hb hd) rfl hl k) K
theorem w_astoreN (X : Sd Z n0 kk code ml own nm ret h p l e R s m args below meth c T locs cells slots) {k : Fin 4} {v : Value} (L' : Array Slot) (hd : Dc code pc (.astore_n k) 1 pc') (hv : v.isRef = true) (hl : storeLocals L k.val v = some L') (K : Wp p e below P (T.setTop (mkF m pc' L' S))) : Wp p e below P (T.setTop (mkF m pc L (v :: S))) := by
  obtain ⟨hd, rfl⟩ := hd
  exact Wp.of (fun _ k => XS.astoreN X.st.here X.hx rfl (X.hb hd) rfl hv hl k) K
theorem w_astore (X : Sd Z n0 kk code ml own nm ret h p l e R s m args below meth c T locs cells slots) {k : Nat} {v : Value} (L' : Array Slot) (hd : Dc code pc (.astore k) 2 pc') (hv : v.isRef = true) (hl : storeLocals L k v = some L') (K : Wp p e below P (T.setTop (mkF m pc' L' S))) : Wp p e below P (T.setTop (mkF m pc L (v :: S))) := by
  obtain ⟨hd, rfl⟩ := hd
  exact Wp.of (fun _ k => XS.astore X.st.here X.hx rfl (X.hb hd) rfl hv hl k) K
theorem w_iinc (X : Sd Z n0 kk code ml own nm ret h p l e R s m args below meth c T locs cells slots) {k : Nat} {q : Int} {v : Int32} (z : Int32) (L' : Array Slot) (hd : Dc code pc (.iinc k q) 3 pc') (hq : Int32.ofInt q = z) (hg : L[k]? = some (.val (.int v))) (hl : storeLocals L k (.int (v + z)) = some L') (K : Wp p e below P (T.setTop (mkF m pc' L' S))) : Wp p e below P (T.setTop (mkF m pc L S)) := by
  obtain ⟨hd, rfl⟩ := hd
  exact Wp.of (fun _ k => XS.iinc X.st.here X.hx rfl (X.hb hd) hg (hq ▸ hl) k) K
theorem w_iconst (X : Sd Z n0 kk code ml own nm ret h p l e R s m args below meth c T locs cells slots) {i : Int} (v : Int32) (hd : Dc code pc (.iconst i) 1 pc') (hv : Int32.ofInt i = v) (K : Wp p e below P (T.setTop (mkF m pc' L (.int v :: S)))) : Wp p e below P (T.setTop (mkF m pc L S)) := by
  obtain ⟨hd, rfl⟩ := hd
  exact Wp.of (fun _ k => XS.iconst X.st.here X.hx rfl (X.hb hd) (by rw [hv]; exact k)) K
theorem w_bipush (X : Sd Z n0 kk code ml own nm ret h p l e R s m args below meth c T locs cells slots) {i : Int} (v : Int32) (hd : Dc code pc (.bipush i) 2 pc') (hv : (Int8.ofInt i).toInt32 = v) (K : Wp p e below P (T.setTop (mkF m pc' L (.int v :: S)))) : Wp p e below P (T.setTop (mkF m pc L S)) := by
  obtain ⟨hd, rfl⟩ := hd
  exact Wp.of (fun _ k => XS.bipush X.st.here X.hx rfl (X.hb hd) (by rw [hv]; exact k)) K
theorem w_sipush (X : Sd Z n0 kk code ml own nm ret h p l e R s m args below meth c T locs cells slots) {i : Int} (v : Int32) (hd : Dc code pc (.sipush i) 3 pc') (hv : (Int16.ofInt i).toInt32 = v) (K : Wp p e below P (T.setTop (mkF m pc' L (.int v :: S)))) : Wp p e below P (T.setTop (mkF m pc L S)) := by
  obtain ⟨hd, rfl⟩ := hd
  exact Wp.of (fun _ k => XS.sipush X.st.here X.hx rfl (X.hb hd) (by rw [hv]; exact k)) K
theorem w_lconst (X : Sd Z n0 kk code ml own nm ret h p l e R s m args below meth c T locs cells slots) {i : Fin 2} (v : Int64) (hd : Dc code pc (.lconst i) 1 pc') (hv : Int64.ofNat i = v) (K : Wp p e below P (T.setTop (mkF m pc' L (.long v :: S)))) : Wp p e below P (T.setTop (mkF m pc L S)) := by
  obtain ⟨hd, rfl⟩ := hd
  exact Wp.of (fun _ k => XS.lconst X.st.here X.hx rfl (X.hb hd) (by rw [hv]; exact k)) K
theorem w_aconstNull (X : Sd Z n0 kk code ml own nm ret h p l e R s m args below meth c T locs cells slots)  (hd : Dc code pc (.aconst_null) 1 pc')  (K : Wp p e below P (T.setTop (mkF m pc' L (.null :: S)))) : Wp p e below P (T.setTop (mkF m pc L S)) := by
  obtain ⟨hd, rfl⟩ := hd
  exact Wp.of (fun _ k => XS.aconstNull X.st.here X.hx rfl (X.hb hd) k) K
theorem w_iadd (X : Sd Z n0 kk code ml own nm ret h p l e R s m args below meth c T locs cells slots) {x y : Int32} (hd : Dc code pc (.iadd) 1 pc')  (K : Wp p e below P (T.setTop (mkF m pc' L (.int (x + y) :: S)))) : Wp p e below P (T.setTop (mkF m pc L (.int y :: .int x :: S))) := by
  obtain ⟨hd, rfl⟩ := hd
  exact Wp.of (fun _ k => XS.iadd X.st.here X.hx rfl (X.hb hd) rfl k) K
theorem w_ladd (X : Sd Z n0 kk code ml own nm ret h p l e R s m args below meth c T locs cells slots) {x y : Int64} (hd : Dc code pc (.ladd) 1 pc')  (K : Wp p e below P (T.setTop (mkF m pc' L (.long (x + y) :: S)))) : Wp p e below P (T.setTop (mkF m pc L (.long y :: .long x :: S))) := by
  obtain ⟨hd, rfl⟩ := hd
  exact Wp.of (fun _ k => XS.ladd X.st.here X.hx rfl (X.hb hd) rfl k) K
theorem w_isub (X : Sd Z n0 kk code ml own nm ret h p l e R s m args below meth c T locs cells slots) {x y : Int32} (hd : Dc code pc (.isub) 1 pc')  (K : Wp p e below P (T.setTop (mkF m pc' L (.int (x - y) :: S)))) : Wp p e below P (T.setTop (mkF m pc L (.int y :: .int x :: S))) := by
  obtain ⟨hd, rfl⟩ := hd
  exact Wp.of (fun _ k => XS.isub X.st.here X.hx rfl (X.hb hd) rfl k) K
theorem w_lsub (X : Sd Z n0 kk code ml own nm ret h p l e R s m args below meth c T locs cells slots) {x y : Int64} (hd : Dc code pc (.lsub) 1 pc')  (K : Wp p e below P (T.setTop (mkF m pc' L (.long (x - y) :: S)))) : Wp p e below P (T.setTop (mkF m pc L (.long y :: .long x :: S))) := by
  obtain ⟨hd, rfl⟩ := hd
  exact Wp.of (fun _ k => XS.lsub X.st.here X.hx rfl (X.hb hd) rfl k) K
theorem w_imul (X : Sd Z n0 kk code ml own nm ret h p l e R s m args below meth c T locs cells slots) {x y : Int32} (hd : Dc code pc (.imul) 1 pc')  (K : Wp p e below P (T.setTop (mkF m pc' L (.int (x * y) :: S)))) : Wp p e below P (T.setTop (mkF m pc L (.int y :: .int x :: S))) := by
  obtain ⟨hd, rfl⟩ := hd
  exact Wp.of (fun _ k => XS.imul X.st.here X.hx rfl (X.hb hd) rfl k) K
theorem w_lmul (X : Sd Z n0 kk code ml own nm ret h p l e R s m args below meth c T locs cells slots) {x y : Int64} (hd : Dc code pc (.lmul) 1 pc')  (K : Wp p e below P (T.setTop (mkF m pc' L (.long (x * y) :: S)))) : Wp p e below P (T.setTop (mkF m pc L (.long y :: .long x :: S))) := by
  obtain ⟨hd, rfl⟩ := hd
  exact Wp.of (fun _ k => XS.lmul X.st.here X.hx rfl (X.hb hd) rfl k) K
theorem w_iand (X : Sd Z n0 kk code ml own nm ret h p l e R s m args below meth c T locs cells slots) {x y : Int32} (hd : Dc code pc (.iand) 1 pc')  (K : Wp p e below P (T.setTop (mkF m pc' L (.int (x &&& y) :: S)))) : Wp p e below P (T.setTop (mkF m pc L (.int y :: .int x :: S))) := by
  obtain ⟨hd, rfl⟩ := hd
  exact Wp.of (fun _ k => XS.iand X.st.here X.hx rfl (X.hb hd) rfl k) K
theorem w_land (X : Sd Z n0 kk code ml own nm ret h p l e R s m args below meth c T locs cells slots) {x y : Int64} (hd : Dc code pc (.land) 1 pc')  (K : Wp p e below P (T.setTop (mkF m pc' L (.long (x &&& y) :: S)))) : Wp p e below P (T.setTop (mkF m pc L (.long y :: .long x :: S))) := by
  obtain ⟨hd, rfl⟩ := hd
  exact Wp.of (fun _ k => XS.land X.st.here X.hx rfl (X.hb hd) rfl k) K
theorem w_ior (X : Sd Z n0 kk code ml own nm ret h p l e R s m args below meth c T locs cells slots) {x y : Int32} (hd : Dc code pc (.ior) 1 pc')  (K : Wp p e below P (T.setTop (mkF m pc' L (.int (x ||| y) :: S)))) : Wp p e below P (T.setTop (mkF m pc L (.int y :: .int x :: S))) := by
  obtain ⟨hd, rfl⟩ := hd
  exact Wp.of (fun _ k => XS.ior X.st.here X.hx rfl (X.hb hd) rfl k) K
theorem w_lor (X : Sd Z n0 kk code ml own nm ret h p l e R s m args below meth c T locs cells slots) {x y : Int64} (hd : Dc code pc (.lor) 1 pc')  (K : Wp p e below P (T.setTop (mkF m pc' L (.long (x ||| y) :: S)))) : Wp p e below P (T.setTop (mkF m pc L (.long y :: .long x :: S))) := by
  obtain ⟨hd, rfl⟩ := hd
  exact Wp.of (fun _ k => XS.lor X.st.here X.hx rfl (X.hb hd) rfl k) K
theorem w_ixor (X : Sd Z n0 kk code ml own nm ret h p l e R s m args below meth c T locs cells slots) {x y : Int32} (hd : Dc code pc (.ixor) 1 pc')  (K : Wp p e below P (T.setTop (mkF m pc' L (.int (x ^^^ y) :: S)))) : Wp p e below P (T.setTop (mkF m pc L (.int y :: .int x :: S))) := by
  obtain ⟨hd, rfl⟩ := hd
  exact Wp.of (fun _ k => XS.ixor X.st.here X.hx rfl (X.hb hd) rfl k) K
theorem w_lxor (X : Sd Z n0 kk code ml own nm ret h p l e R s m args below meth c T locs cells slots) {x y : Int64} (hd : Dc code pc (.lxor) 1 pc')  (K : Wp p e below P (T.setTop (mkF m pc' L (.long (x ^^^ y) :: S)))) : Wp p e below P (T.setTop (mkF m pc L (.long y :: .long x :: S))) := by
  obtain ⟨hd, rfl⟩ := hd
  exact Wp.of (fun _ k => XS.lxor X.st.here X.hx rfl (X.hb hd) rfl k) K
theorem w_ineg (X : Sd Z n0 kk code ml own nm ret h p l e R s m args below meth c T locs cells slots) {x : Int32} (hd : Dc code pc (.ineg) 1 pc')  (K : Wp p e below P (T.setTop (mkF m pc' L (.int (-x) :: S)))) : Wp p e below P (T.setTop (mkF m pc L (.int x :: S))) := by
  obtain ⟨hd, rfl⟩ := hd
  exact Wp.of (fun _ k => XS.ineg X.st.here X.hx rfl (X.hb hd) rfl k) K
theorem w_lneg (X : Sd Z n0 kk code ml own nm ret h p l e R s m args below meth c T locs cells slots) {x : Int64} (hd : Dc code pc (.lneg) 1 pc')  (K : Wp p e below P (T.setTop (mkF m pc' L (.long (-x) :: S)))) : Wp p e below P (T.setTop (mkF m pc L (.long x :: S))) := by
  obtain ⟨hd, rfl⟩ := hd
  exact Wp.of (fun _ k => XS.lneg X.st.here X.hx rfl (X.hb hd) rfl k) K
theorem w_idiv (X : Sd Z n0 kk code ml own nm ret h p l e R s m args below meth c T locs cells slots) {x y : Int32} (hd : Dc code pc (.idiv) 1 pc') (hy : ¬ y = 0) (K : Wp p e below P (T.setTop (mkF m pc' L (.int (x / y) :: S)))) : Wp p e below P (T.setTop (mkF m pc L (.int y :: .int x :: S))) := by
  obtain ⟨hd, rfl⟩ := hd
  exact Wp.of (fun _ k => XS.idiv X.st.here X.hx rfl (X.hb hd) rfl hy k) K
theorem w_ldiv (X : Sd Z n0 kk code ml own nm ret h p l e R s m args below meth c T locs cells slots) {x y : Int64} (hd : Dc code pc (.ldiv) 1 pc') (hy : ¬ y = 0) (K : Wp p e below P (T.setTop (mkF m pc' L (.long (x / y) :: S)))) : Wp p e below P (T.setTop (mkF m pc L (.long y :: .long x :: S))) := by
  obtain ⟨hd, rfl⟩ := hd
  exact Wp.of (fun _ k => XS.ldiv X.st.here X.hx rfl (X.hb hd) rfl hy k) K
theorem own_irem (x y : Int32) : x - (x / y) * y = x % y := by
  apply Int32.toInt_inj.mp
  have h1 := Int32.le_toInt (x % y)
  have h2 := Int32.toInt_lt (x % y)
  rw [Int32.toInt_mod] at h1 h2 ⊢
  rw [Int32.toInt_sub, Int32.toInt_mul, Int32.toInt_div, Int.bmod_mul_bmod, Int.sub_bmod_bmod]
  have e : x.toInt - x.toInt.tdiv y.toInt * y.toInt = x.toInt.tmod y.toInt := by rw [Int.mul_comm]; exact (Int.tmod_def _ _).symm
  rw [e, Int.bmod_eq_of_le (by omega) (by omega)]
theorem w_irem (X : Sd Z n0 kk code ml own nm ret h p l e R s m args below meth c T locs cells slots) {x y : Int32} (hd : Dc code pc (.irem) 1 pc') (hy : ¬ y = 0) (K : Wp p e below P (T.setTop (mkF m pc' L (.int (x % y) :: S)))) : Wp p e below P (T.setTop (mkF m pc L (.int y :: .int x :: S))) := by
  obtain ⟨hd, rfl⟩ := hd
  exact Wp.of (fun _ k => XS.irem X.st.here X.hx rfl (X.hb hd) rfl hy (by rw [own_irem]; exact k)) K
theorem w_lrem (X : Sd Z n0 kk code ml own nm ret h p l e R s m args below meth c T locs cells slots) {x y : Int64} (hd : Dc code pc (.lrem) 1 pc') (hy : ¬ y = 0) (K : Wp p e below P (T.setTop (mkF m pc' L (.long (x % y) :: S)))) : Wp p e below P (T.setTop (mkF m pc L (.long y :: .long x :: S))) := by
  obtain ⟨hd, rfl⟩ := hd
  exact Wp.of (fun _ k => XS.lrem X.st.here X.hx rfl (X.hb hd) rfl hy (by rw [lrem_mod]; exact k)) K
theorem w_ishl (X : Sd Z n0 kk code ml own nm ret h p l e R s m args below meth c T locs cells slots) {x y : Int32} (hd : Dc code pc (.ishl) 1 pc')  (K : Wp p e below P (T.setTop (mkF m pc' L (.int (x <<< (y &&& 31)) :: S)))) : Wp p e below P (T.setTop (mkF m pc L (.int y :: .int x :: S))) := by
  obtain ⟨hd, rfl⟩ := hd
  exact Wp.of (fun _ k => XS.ishl X.st.here X.hx rfl (X.hb hd) rfl k) K
theorem w_ishr (X : Sd Z n0 kk code ml own nm ret h p l e R s m args below meth c T locs cells slots) {x y : Int32} (hd : Dc code pc (.ishr) 1 pc')  (K : Wp p e below P (T.setTop (mkF m pc' L (.int (x >>> (y &&& 31)) :: S)))) : Wp p e below P (T.setTop (mkF m pc L (.int y :: .int x :: S))) := by
  obtain ⟨hd, rfl⟩ := hd
  exact Wp.of (fun _ k => XS.ishr X.st.here X.hx rfl (X.hb hd) rfl k) K
theorem w_iushr (X : Sd Z n0 kk code ml own nm ret h p l e R s m args below meth c T locs cells slots) {x y : Int32} (hd : Dc code pc (.iushr) 1 pc')  (K : Wp p e below P (T.setTop (mkF m pc' L (.int ((x.toUInt32 >>> (y &&& 31).toUInt32).toInt32) :: S)))) : Wp p e below P (T.setTop (mkF m pc L (.int y :: .int x :: S))) := by
  obtain ⟨hd, rfl⟩ := hd
  exact Wp.of (fun _ k => XS.iushr X.st.here X.hx rfl (X.hb hd) rfl k) K
theorem w_lshl (X : Sd Z n0 kk code ml own nm ret h p l e R s m args below meth c T locs cells slots) {x : Int64} {y : Int32} (hd : Dc code pc (.lshl) 1 pc')  (K : Wp p e below P (T.setTop (mkF m pc' L (.long (x <<< (y &&& 0x3f).toInt64) :: S)))) : Wp p e below P (T.setTop (mkF m pc L (.int y :: .long x :: S))) := by
  obtain ⟨hd, rfl⟩ := hd
  exact Wp.of (fun _ k => XS.lshl X.st.here X.hx rfl (X.hb hd) rfl k) K
theorem w_lshr (X : Sd Z n0 kk code ml own nm ret h p l e R s m args below meth c T locs cells slots) {x : Int64} {y : Int32} (hd : Dc code pc (.lshr) 1 pc')  (K : Wp p e below P (T.setTop (mkF m pc' L (.long (x >>> (y &&& 0x3f).toInt64) :: S)))) : Wp p e below P (T.setTop (mkF m pc L (.int y :: .long x :: S))) := by
  obtain ⟨hd, rfl⟩ := hd
  exact Wp.of (fun _ k => XS.lshr X.st.here X.hx rfl (X.hb hd) rfl k) K
theorem w_lushr (X : Sd Z n0 kk code ml own nm ret h p l e R s m args below meth c T locs cells slots) {x : Int64} {y : Int32} (hd : Dc code pc (.lushr) 1 pc')  (K : Wp p e below P (T.setTop (mkF m pc' L (.long ((x.toUInt64 >>> (y &&& 0x3f).toInt64.toUInt64).toInt64) :: S)))) : Wp p e below P (T.setTop (mkF m pc L (.int y :: .long x :: S))) := by
  obtain ⟨hd, rfl⟩ := hd
  exact Wp.of (fun _ k => XS.lushr X.st.here X.hx rfl (X.hb hd) rfl k) K
theorem w_i2l (X : Sd Z n0 kk code ml own nm ret h p l e R s m args below meth c T locs cells slots) {x : Int32} (hd : Dc code pc (.i2l) 1 pc')  (K : Wp p e below P (T.setTop (mkF m pc' L (.long (x.toInt64) :: S)))) : Wp p e below P (T.setTop (mkF m pc L (.int x :: S))) := by
  obtain ⟨hd, rfl⟩ := hd
  exact Wp.of (fun _ k => XS.i2l X.st.here X.hx rfl (X.hb hd) rfl k) K
theorem w_i2b (X : Sd Z n0 kk code ml own nm ret h p l e R s m args below meth c T locs cells slots) {x : Int32} (hd : Dc code pc (.i2b) 1 pc')  (K : Wp p e below P (T.setTop (mkF m pc' L (.int (x.toInt8.toInt32) :: S)))) : Wp p e below P (T.setTop (mkF m pc L (.int x :: S))) := by
  obtain ⟨hd, rfl⟩ := hd
  exact Wp.of (fun _ k => XS.i2b X.st.here X.hx rfl (X.hb hd) rfl k) K
theorem w_i2s (X : Sd Z n0 kk code ml own nm ret h p l e R s m args below meth c T locs cells slots) {x : Int32} (hd : Dc code pc (.i2s) 1 pc')  (K : Wp p e below P (T.setTop (mkF m pc' L (.int (x.toInt16.toInt32) :: S)))) : Wp p e below P (T.setTop (mkF m pc L (.int x :: S))) := by
  obtain ⟨hd, rfl⟩ := hd
  exact Wp.of (fun _ k => XS.i2s X.st.here X.hx rfl (X.hb hd) rfl k) K
theorem w_i2c (X : Sd Z n0 kk code ml own nm ret h p l e R s m args below meth c T locs cells slots) {x : Int32} (hd : Dc code pc (.i2c) 1 pc')  (K : Wp p e below P (T.setTop (mkF m pc' L (.int (x.toUInt32.toUInt16.toUInt32.toInt32) :: S)))) : Wp p e below P (T.setTop (mkF m pc L (.int x :: S))) := by
  obtain ⟨hd, rfl⟩ := hd
  exact Wp.of (fun _ k => XS.i2c X.st.here X.hx rfl (X.hb hd) rfl k) K
theorem w_l2i (X : Sd Z n0 kk code ml own nm ret h p l e R s m args below meth c T locs cells slots) {x : Int64} (hd : Dc code pc (.l2i) 1 pc')  (K : Wp p e below P (T.setTop (mkF m pc' L (.int (x.toInt32) :: S)))) : Wp p e below P (T.setTop (mkF m pc L (.long x :: S))) := by
  obtain ⟨hd, rfl⟩ := hd
  exact Wp.of (fun _ k => XS.l2i X.st.here X.hx rfl (X.hb hd) rfl k) K
theorem w_lcmp (X : Sd Z n0 kk code ml own nm ret h p l e R s m args below meth c T locs cells slots) {x y : Int64} (hd : Dc code pc (.lcmp) 1 pc')  (K : Wp p e below P (T.setTop (mkF m pc' L (.int (lcmpW x y) :: S)))) : Wp p e below P (T.setTop (mkF m pc L (.long y :: .long x :: S))) := by
  obtain ⟨hd, rfl⟩ := hd
  exact Wp.of (fun _ k => XS.lcmp X.st.here X.hx rfl (X.hb hd) rfl k) K
theorem w_dup (X : Sd Z n0 kk code ml own nm ret h p l e R s m args below meth c T locs cells slots) {x : Value} (hd : Dc code pc (.dup) 1 pc') (hc : x.category = 1) (K : Wp p e below P (T.setTop (mkF m pc' L (x :: x :: S)))) : Wp p e below P (T.setTop (mkF m pc L (x :: S))) := by
  obtain ⟨hd, rfl⟩ := hd
  exact Wp.of (fun _ k => XS.dup X.st.here X.hx rfl (X.hb hd) rfl hc k) K
theorem w_dup2 (X : Sd Z n0 kk code ml own nm ret h p l e R s m args below meth c T locs cells slots) {x y : Value} (hd : Dc code pc (.dup2) 1 pc') (hc : x.category = 1) (hc' : y.category = 1) (K : Wp p e below P (T.setTop (mkF m pc' L (x :: y :: x :: y :: S)))) : Wp p e below P (T.setTop (mkF m pc L (x :: y :: S))) := by
  obtain ⟨hd, rfl⟩ := hd
  exact Wp.of (fun _ k => XT.dup2 X.st.here X.hx rfl (X.hb hd) rfl hc hc' k) K
theorem w_dup2L (X : Sd Z n0 kk code ml own nm ret h p l e R s m args below meth c T locs cells slots) {x : Int64} (hd : Dc code pc (.dup2) 1 pc')  (K : Wp p e below P (T.setTop (mkF m pc' L (.long x :: .long x :: S)))) : Wp p e below P (T.setTop (mkF m pc L (.long x :: S))) := by
  obtain ⟨hd, rfl⟩ := hd
  exact Wp.of (fun _ k => XT.dup2L X.st.here X.hx rfl (X.hb hd) rfl k) K
theorem w_dupX1 (X : Sd Z n0 kk code ml own nm ret h p l e R s m args below meth c T locs cells slots) {x y : Value} (hd : Dc code pc (.dup_x1) 1 pc') (hc : x.category = 1) (hc' : y.category = 1) (K : Wp p e below P (T.setTop (mkF m pc' L (x :: y :: x :: S)))) : Wp p e below P (T.setTop (mkF m pc L (x :: y :: S))) := by
  obtain ⟨hd, rfl⟩ := hd
  exact Wp.of (fun _ k => XS.dupX1 X.st.here X.hx rfl (X.hb hd) rfl hc hc' k) K
theorem w_pop (X : Sd Z n0 kk code ml own nm ret h p l e R s m args below meth c T locs cells slots) {x : Value} (hd : Dc code pc (.pop) 1 pc') (hc : x.category = 1) (K : Wp p e below P (T.setTop (mkF m pc' L S))) : Wp p e below P (T.setTop (mkF m pc L (x :: S))) := by
  obtain ⟨hd, rfl⟩ := hd
  exact Wp.of (fun _ k => XS.pop X.st.here X.hx rfl (X.hb hd) rfl hc k) K
theorem w_goto (X : Sd Z n0 kk code ml own nm ret h p l e R s m args below meth c T locs cells slots) {t : Nat} (hd : Bc code pc .goto t pc') (K : Wp p e below P (T.setTop (mkF m t L S))) : Wp p e below P (T.setTop (mkF m pc L S)) := by
  obtain ⟨o, hd, h1, h2, -⟩ := hd
  exact Wp.of (fun _ k => XS.goto X.st.here X.hx rfl (pc0 := pc) rfl (X.hb hd) h1 h2 k) K
theorem w_ifeq (X : Sd Z n0 kk code ml own nm ret h p l e R s m args below meth c T locs cells slots) {x : Int32} {t : Nat} (hd : Bc code pc (.ifCond .eq) t pc') (K1 : x = 0 → Wp p e below P (T.setTop (mkF m t L S))) (K2 : ¬ x = 0 → Wp p e below P (T.setTop (mkF m pc' L S))) : Wp p e below P (T.setTop (mkF m pc L (.int x :: S))) := by
  obtain ⟨o, hd, h1, h2, rfl⟩ := hd
  by_cases q : ifCond.holds .eq x = true
  · exact Wp.of (fun _ k => XS.ifYes X.st.here X.hx rfl (pc0 := pc) rfl (X.hb hd) rfl q h1 h2 k) (K1 (by simpa [ifCond.holds, Int32.not_lt] using q))
  · exact Wp.of (fun _ k => XS.ifNo X.st.here X.hx rfl (X.hb hd) rfl (by simpa using q) k) (K2 (by simpa [ifCond.holds, Int32.not_lt] using q))
theorem w_icmpeq (X : Sd Z n0 kk code ml own nm ret h p l e R s m args below meth c T locs cells slots) {x y : Int32} {t : Nat} (hd : Bc code pc (.if_icmp .eq) t pc') (K1 : x = y → Wp p e below P (T.setTop (mkF m t L S))) (K2 : ¬ x = y → Wp p e below P (T.setTop (mkF m pc' L S))) : Wp p e below P (T.setTop (mkF m pc L (.int y :: .int x :: S))) := by
  obtain ⟨o, hd, h1, h2, rfl⟩ := hd
  by_cases q : if_icmp.holds .eq x y = true
  · exact Wp.of (fun _ k => XS.icmpYes X.st.here X.hx rfl (pc0 := pc) rfl (X.hb hd) rfl q h1 h2 k) (K1 (by simpa [if_icmp.holds, Int32.not_lt] using q))
  · exact Wp.of (fun _ k => XS.icmpNo X.st.here X.hx rfl (X.hb hd) rfl (by simpa using q) k) (K2 (by simpa [if_icmp.holds, Int32.not_lt] using q))
theorem w_ifne (X : Sd Z n0 kk code ml own nm ret h p l e R s m args below meth c T locs cells slots) {x : Int32} {t : Nat} (hd : Bc code pc (.ifCond .ne) t pc') (K1 : ¬ x = 0 → Wp p e below P (T.setTop (mkF m t L S))) (K2 : x = 0 → Wp p e below P (T.setTop (mkF m pc' L S))) : Wp p e below P (T.setTop (mkF m pc L (.int x :: S))) := by
  obtain ⟨o, hd, h1, h2, rfl⟩ := hd
  by_cases q : ifCond.holds .ne x = true
  · exact Wp.of (fun _ k => XS.ifYes X.st.here X.hx rfl (pc0 := pc) rfl (X.hb hd) rfl q h1 h2 k) (K1 (by simpa [ifCond.holds, Int32.not_lt] using q))
  · exact Wp.of (fun _ k => XS.ifNo X.st.here X.hx rfl (X.hb hd) rfl (by simpa using q) k) (K2 (by simpa [ifCond.holds, Int32.not_lt] using q))
theorem w_icmpne (X : Sd Z n0 kk code ml own nm ret h p l e R s m args below meth c T locs cells slots) {x y : Int32} {t : Nat} (hd : Bc code pc (.if_icmp .ne) t pc') (K1 : ¬ x = y → Wp p e below P (T.setTop (mkF m t L S))) (K2 : x = y → Wp p e below P (T.setTop (mkF m pc' L S))) : Wp p e below P (T.setTop (mkF m pc L (.int y :: .int x :: S))) := by
  obtain ⟨o, hd, h1, h2, rfl⟩ := hd
  by_cases q : if_icmp.holds .ne x y = true
  · exact Wp.of (fun _ k => XS.icmpYes X.st.here X.hx rfl (pc0 := pc) rfl (X.hb hd) rfl q h1 h2 k) (K1 (by simpa [if_icmp.holds, Int32.not_lt] using q))
  · exact Wp.of (fun _ k => XS.icmpNo X.st.here X.hx rfl (X.hb hd) rfl (by simpa using q) k) (K2 (by simpa [if_icmp.holds, Int32.not_lt] using q))
theorem w_iflt (X : Sd Z n0 kk code ml own nm ret h p l e R s m args below meth c T locs cells slots) {x : Int32} {t : Nat} (hd : Bc code pc (.ifCond .lt) t pc') (K1 : x < 0 → Wp p e below P (T.setTop (mkF m t L S))) (K2 : ¬ x < 0 → Wp p e below P (T.setTop (mkF m pc' L S))) : Wp p e below P (T.setTop (mkF m pc L (.int x :: S))) := by
  obtain ⟨o, hd, h1, h2, rfl⟩ := hd
  by_cases q : ifCond.holds .lt x = true
  · exact Wp.of (fun _ k => XS.ifYes X.st.here X.hx rfl (pc0 := pc) rfl (X.hb hd) rfl q h1 h2 k) (K1 (by simpa [ifCond.holds, Int32.not_lt] using q))
  · exact Wp.of (fun _ k => XS.ifNo X.st.here X.hx rfl (X.hb hd) rfl (by simpa using q) k) (K2 (by simpa [ifCond.holds, Int32.not_lt] using q))
theorem w_icmplt (X : Sd Z n0 kk code ml own nm ret h p l e R s m args below meth c T locs cells slots) {x y : Int32} {t : Nat} (hd : Bc code pc (.if_icmp .lt) t pc') (K1 : x < y → Wp p e below P (T.setTop (mkF m t L S))) (K2 : ¬ x < y → Wp p e below P (T.setTop (mkF m pc' L S))) : Wp p e below P (T.setTop (mkF m pc L (.int y :: .int x :: S))) := by
  obtain ⟨o, hd, h1, h2, rfl⟩ := hd
  by_cases q : if_icmp.holds .lt x y = true
  · exact Wp.of (fun _ k => XS.icmpYes X.st.here X.hx rfl (pc0 := pc) rfl (X.hb hd) rfl q h1 h2 k) (K1 (by simpa [if_icmp.holds, Int32.not_lt] using q))
  · exact Wp.of (fun _ k => XS.icmpNo X.st.here X.hx rfl (X.hb hd) rfl (by simpa using q) k) (K2 (by simpa [if_icmp.holds, Int32.not_lt] using q))
theorem w_ifge (X : Sd Z n0 kk code ml own nm ret h p l e R s m args below meth c T locs cells slots) {x : Int32} {t : Nat} (hd : Bc code pc (.ifCond .ge) t pc') (K1 : ¬ x < 0 → Wp p e below P (T.setTop (mkF m t L S))) (K2 : x < 0 → Wp p e below P (T.setTop (mkF m pc' L S))) : Wp p e below P (T.setTop (mkF m pc L (.int x :: S))) := by
  obtain ⟨o, hd, h1, h2, rfl⟩ := hd
  by_cases q : ifCond.holds .ge x = true
  · exact Wp.of (fun _ k => XS.ifYes X.st.here X.hx rfl (pc0 := pc) rfl (X.hb hd) rfl q h1 h2 k) (K1 (by simpa [ifCond.holds, Int32.not_lt] using q))
  · exact Wp.of (fun _ k => XS.ifNo X.st.here X.hx rfl (X.hb hd) rfl (by simpa using q) k) (K2 (by simpa [ifCond.holds, Int32.not_lt] using q))
theorem w_icmpge (X : Sd Z n0 kk code ml own nm ret h p l e R s m args below meth c T locs cells slots) {x y : Int32} {t : Nat} (hd : Bc code pc (.if_icmp .ge) t pc') (K1 : ¬ x < y → Wp p e below P (T.setTop (mkF m t L S))) (K2 : x < y → Wp p e below P (T.setTop (mkF m pc' L S))) : Wp p e below P (T.setTop (mkF m pc L (.int y :: .int x :: S))) := by
  obtain ⟨o, hd, h1, h2, rfl⟩ := hd
  by_cases q : if_icmp.holds .ge x y = true
  · exact Wp.of (fun _ k => XS.icmpYes X.st.here X.hx rfl (pc0 := pc) rfl (X.hb hd) rfl q h1 h2 k) (K1 (by simpa [if_icmp.holds, Int32.not_lt] using q))
  · exact Wp.of (fun _ k => XS.icmpNo X.st.here X.hx rfl (X.hb hd) rfl (by simpa using q) k) (K2 (by simpa [if_icmp.holds, Int32.not_lt] using q))
theorem w_ifgt (X : Sd Z n0 kk code ml own nm ret h p l e R s m args below meth c T locs cells slots) {x : Int32} {t : Nat} (hd : Bc code pc (.ifCond .gt) t pc') (K1 : 0 < x → Wp p e below P (T.setTop (mkF m t L S))) (K2 : ¬ 0 < x → Wp p e below P (T.setTop (mkF m pc' L S))) : Wp p e below P (T.setTop (mkF m pc L (.int x :: S))) := by
  obtain ⟨o, hd, h1, h2, rfl⟩ := hd
  by_cases q : ifCond.holds .gt x = true
  · exact Wp.of (fun _ k => XS.ifYes X.st.here X.hx rfl (pc0 := pc) rfl (X.hb hd) rfl q h1 h2 k) (K1 (by simpa [ifCond.holds, Int32.not_lt] using q))
  · exact Wp.of (fun _ k => XS.ifNo X.st.here X.hx rfl (X.hb hd) rfl (by simpa using q) k) (K2 (by simpa [ifCond.holds, Int32.not_lt] using q))
theorem w_icmpgt (X : Sd Z n0 kk code ml own nm ret h p l e R s m args below meth c T locs cells slots) {x y : Int32} {t : Nat} (hd : Bc code pc (.if_icmp .gt) t pc') (K1 : y < x → Wp p e below P (T.setTop (mkF m t L S))) (K2 : ¬ y < x → Wp p e below P (T.setTop (mkF m pc' L S))) : Wp p e below P (T.setTop (mkF m pc L (.int y :: .int x :: S))) := by
  obtain ⟨o, hd, h1, h2, rfl⟩ := hd
  by_cases q : if_icmp.holds .gt x y = true
  · exact Wp.of (fun _ k => XS.icmpYes X.st.here X.hx rfl (pc0 := pc) rfl (X.hb hd) rfl q h1 h2 k) (K1 (by simpa [if_icmp.holds, Int32.not_lt] using q))
  · exact Wp.of (fun _ k => XS.icmpNo X.st.here X.hx rfl (X.hb hd) rfl (by simpa using q) k) (K2 (by simpa [if_icmp.holds, Int32.not_lt] using q))
theorem w_ifle (X : Sd Z n0 kk code ml own nm ret h p l e R s m args below meth c T locs cells slots) {x : Int32} {t : Nat} (hd : Bc code pc (.ifCond .le) t pc') (K1 : ¬ 0 < x → Wp p e below P (T.setTop (mkF m t L S))) (K2 : 0 < x → Wp p e below P (T.setTop (mkF m pc' L S))) : Wp p e below P (T.setTop (mkF m pc L (.int x :: S))) := by
  obtain ⟨o, hd, h1, h2, rfl⟩ := hd
  by_cases q : ifCond.holds .le x = true
  · exact Wp.of (fun _ k => XS.ifYes X.st.here X.hx rfl (pc0 := pc) rfl (X.hb hd) rfl q h1 h2 k) (K1 (by simpa [ifCond.holds, Int32.not_lt] using q))
  · exact Wp.of (fun _ k => XS.ifNo X.st.here X.hx rfl (X.hb hd) rfl (by simpa using q) k) (K2 (by simpa [ifCond.holds, Int32.not_lt] using q))
theorem w_icmple (X : Sd Z n0 kk code ml own nm ret h p l e R s m args below meth c T locs cells slots) {x y : Int32} {t : Nat} (hd : Bc code pc (.if_icmp .le) t pc') (K1 : ¬ y < x → Wp p e below P (T.setTop (mkF m t L S))) (K2 : y < x → Wp p e below P (T.setTop (mkF m pc' L S))) : Wp p e below P (T.setTop (mkF m pc L (.int y :: .int x :: S))) := by
  obtain ⟨o, hd, h1, h2, rfl⟩ := hd
  by_cases q : if_icmp.holds .le x y = true
  · exact Wp.of (fun _ k => XS.icmpYes X.st.here X.hx rfl (pc0 := pc) rfl (X.hb hd) rfl q h1 h2 k) (K1 (by simpa [if_icmp.holds, Int32.not_lt] using q))
  · exact Wp.of (fun _ k => XS.icmpNo X.st.here X.hx rfl (X.hb hd) rfl (by simpa using q) k) (K2 (by simpa [if_icmp.holds, Int32.not_lt] using q))
theorem own_lc (x y : Int64) : (lcmpW x y < 0 ↔ x < y) ∧ (0 < lcmpW x y ↔ y < x) ∧ (lcmpW x y = 0 ↔ x = y) := by rw [lcW]; exact ⟨lc_lt x y, lc_gt x y, lc_eq x y⟩
theorem w_leq (X : Sd Z n0 kk code ml own nm ret h p l e R s m args below meth c T locs cells slots) {x y : Int64} {t pc1 : Nat} (hd : Dc code pc .lcmp 1 pc1) (hd2 : Bc code pc1 (.ifCond .eq) t pc') (K1 : x = y → Wp p e below P (T.setTop (mkF m t L S))) (K2 : ¬ x = y → Wp p e below P (T.setTop (mkF m pc' L S))) : Wp p e below P (T.setTop (mkF m pc L (.long y :: .long x :: S))) :=
  w_lcmp X hd (w_ifeq X hd2 (fun q => K1 ((own_lc x y).2.2.mp q)) (fun q => K2 (fun r => q ((own_lc x y).2.2.mpr r))))
theorem w_lne (X : Sd Z n0 kk code ml own nm ret h p l e R s m args below meth c T locs cells slots) {x y : Int64} {t pc1 : Nat} (hd : Dc code pc .lcmp 1 pc1) (hd2 : Bc code pc1 (.ifCond .ne) t pc') (K1 : ¬ x = y → Wp p e below P (T.setTop (mkF m t L S))) (K2 : x = y → Wp p e below P (T.setTop (mkF m pc' L S))) : Wp p e below P (T.setTop (mkF m pc L (.long y :: .long x :: S))) :=
  w_lcmp X hd (w_ifne X hd2 (fun q => K1 (fun r => q ((own_lc x y).2.2.mpr r))) (fun q => K2 ((own_lc x y).2.2.mp q)))
theorem w_llt (X : Sd Z n0 kk code ml own nm ret h p l e R s m args below meth c T locs cells slots) {x y : Int64} {t pc1 : Nat} (hd : Dc code pc .lcmp 1 pc1) (hd2 : Bc code pc1 (.ifCond .lt) t pc') (K1 : x < y → Wp p e below P (T.setTop (mkF m t L S))) (K2 : ¬ x < y → Wp p e below P (T.setTop (mkF m pc' L S))) : Wp p e below P (T.setTop (mkF m pc L (.long y :: .long x :: S))) :=
  w_lcmp X hd (w_iflt X hd2 (fun q => K1 ((own_lc x y).1.mp q)) (fun q => K2 (fun r => q ((own_lc x y).1.mpr r))))
theorem w_lge (X : Sd Z n0 kk code ml own nm ret h p l e R s m args below meth c T locs cells slots) {x y : Int64} {t pc1 : Nat} (hd : Dc code pc .lcmp 1 pc1) (hd2 : Bc code pc1 (.ifCond .ge) t pc') (K1 : ¬ x < y → Wp p e below P (T.setTop (mkF m t L S))) (K2 : x < y → Wp p e below P (T.setTop (mkF m pc' L S))) : Wp p e below P (T.setTop (mkF m pc L (.long y :: .long x :: S))) :=
  w_lcmp X hd (w_ifge X hd2 (fun q => K1 (fun r => q ((own_lc x y).1.mpr r))) (fun q => K2 ((own_lc x y).1.mp q)))
theorem w_lgt (X : Sd Z n0 kk code ml own nm ret h p l e R s m args below meth c T locs cells slots) {x y : Int64} {t pc1 : Nat} (hd : Dc code pc .lcmp 1 pc1) (hd2 : Bc code pc1 (.ifCond .gt) t pc') (K1 : y < x → Wp p e below P (T.setTop (mkF m t L S))) (K2 : ¬ y < x → Wp p e below P (T.setTop (mkF m pc' L S))) : Wp p e below P (T.setTop (mkF m pc L (.long y :: .long x :: S))) :=
  w_lcmp X hd (w_ifgt X hd2 (fun q => K1 ((own_lc x y).2.1.mp q)) (fun q => K2 (fun r => q ((own_lc x y).2.1.mpr r))))
theorem w_lle (X : Sd Z n0 kk code ml own nm ret h p l e R s m args below meth c T locs cells slots) {x y : Int64} {t pc1 : Nat} (hd : Dc code pc .lcmp 1 pc1) (hd2 : Bc code pc1 (.ifCond .le) t pc') (K1 : ¬ y < x → Wp p e below P (T.setTop (mkF m t L S))) (K2 : y < x → Wp p e below P (T.setTop (mkF m pc' L S))) : Wp p e below P (T.setTop (mkF m pc L (.long y :: .long x :: S))) :=
  w_lcmp X hd (w_ifle X hd2 (fun q => K1 (fun r => q ((own_lc x y).2.1.mpr r))) (fun q => K2 ((own_lc x y).2.1.mp q)))
theorem w_ifnullT (X : Sd Z n0 kk code ml own nm ret h p l e R s m args below meth c T locs cells slots) {t : Nat} (hd : Bc code pc .ifnull t pc') (K : Wp p e below P (T.setTop (mkF m t L S))) : Wp p e below P (T.setTop (mkF m pc L (.null :: S))) := by
  obtain ⟨o, hd, h1, h2, -⟩ := hd
  exact Wp.of (fun _ k => XS.ifnullYes X.st.here X.hx rfl (pc0 := pc) rfl (X.hb hd) rfl h1 h2 k) K
theorem w_ifnullF (X : Sd Z n0 kk code ml own nm ret h p l e R s m args below meth c T locs cells slots) {t : Nat} {a : Addr} (hd : Bc code pc .ifnull t pc') (K : Wp p e below P (T.setTop (mkF m pc' L S))) : Wp p e below P (T.setTop (mkF m pc L (.ref a :: S))) := by
  obtain ⟨o, hd, h1, h2, rfl⟩ := hd
  exact Wp.of (fun _ k => XS.ifnullNo X.st.here X.hx rfl (X.hb hd) rfl k) K
theorem w_ifnonnullT (X : Sd Z n0 kk code ml own nm ret h p l e R s m args below meth c T locs cells slots) {t : Nat} {a : Addr} (hd : Bc code pc .ifnonnull t pc') (K : Wp p e below P (T.setTop (mkF m t L S))) : Wp p e below P (T.setTop (mkF m pc L (.ref a :: S))) := by
  obtain ⟨o, hd, h1, h2, -⟩ := hd
  exact Wp.of (fun _ k => XS.ifnonnullYes X.st.here X.hx rfl (pc0 := pc) rfl (X.hb hd) rfl h1 h2 k) K
theorem w_ifnonnullF (X : Sd Z n0 kk code ml own nm ret h p l e R s m args below meth c T locs cells slots) {t : Nat} (hd : Bc code pc .ifnonnull t pc') (K : Wp p e below P (T.setTop (mkF m pc' L S))) : Wp p e below P (T.setTop (mkF m pc L (.null :: S))) := by
  obtain ⟨o, hd, h1, h2, rfl⟩ := hd
  exact Wp.of (fun _ k => XS.ifnonnullNo X.st.here X.hx rfl (X.hb hd) rfl k) K
theorem w_acmpeq (X : Sd Z n0 kk code ml own nm ret h p l e R s m args below meth c T locs cells slots) {x y : Value} {t : Nat} (hx' : x.isRef = true) (hy' : y.isRef = true) (hd : Bc code pc (.if_acmp .eq) t pc') (K1 : x = y → Wp p e below P (T.setTop (mkF m t L S))) (K2 : ¬ x = y → Wp p e below P (T.setTop (mkF m pc' L S))) : Wp p e below P (T.setTop (mkF m pc L (y :: x :: S))) := by
  obtain ⟨o, hd, h1, h2, rfl⟩ := hd
  by_cases q : x = y
  · exact Wp.of (fun _ k => Jvm.RoadKit.acmp X.st X.hx rfl hx' hy' (pc0 := pc) (same := true) rfl (X.hb hd) rfl (decide_eq_true q) h1 (by simp [acV, h2]) k) (K1 q)
  · exact Wp.of (fun _ k => Jvm.RoadKit.acmp X.st X.hx rfl hx' hy' (pc0 := pc) (same := false) rfl (X.hb hd) rfl (decide_eq_false q) h1 (by simp [acV, h2]) k) (K2 q)
theorem w_acmpne (X : Sd Z n0 kk code ml own nm ret h p l e R s m args below meth c T locs cells slots) {x y : Value} {t : Nat} (hx' : x.isRef = true) (hy' : y.isRef = true) (hd : Bc code pc (.if_acmp .ne) t pc') (K1 : ¬ x = y → Wp p e below P (T.setTop (mkF m t L S))) (K2 : x = y → Wp p e below P (T.setTop (mkF m pc' L S))) : Wp p e below P (T.setTop (mkF m pc L (y :: x :: S))) := by
  obtain ⟨o, hd, h1, h2, rfl⟩ := hd
  by_cases q : x = y
  · exact Wp.of (fun _ k => Jvm.RoadKit.acmp X.st X.hx rfl hx' hy' (pc0 := pc) (same := true) rfl (X.hb hd) rfl (decide_eq_true q) h1 (by simp [acV, h2]) k) (K2 q)
  · exact Wp.of (fun _ k => Jvm.RoadKit.acmp X.st X.hx rfl hx' hy' (pc0 := pc) (same := false) rfl (X.hb hd) rfl (decide_eq_false q) h1 (by simp [acV, h2]) k) (K1 q)
theorem w_tsw (X : Sd Z n0 kk code ml own nm ret h p l e R s m args below meth c T locs cells slots) {dflt low high : Int} {offs : Array Int} {len : Nat} {o : Int} {t : Nat} {i : Int32} (hd : Dc code pc (.tableswitch dflt low high offs) len pc') (hin : ¬ (i.toInt < low ∨ i.toInt > high)) (hoff : offs[(i.toInt - low).toNat]? = some o) (ho : 0 ≤ (pc : Int) + o) (ht : ((pc : Int) + o).toNat = t) (K : Wp p e below P (T.setTop (mkF m t L S))) : Wp p e below P (T.setTop (mkF m pc L (.int i :: S))) := by
  obtain ⟨hd, -⟩ := hd
  exact Wp.of (fun _ k => XS.tswIn X.st.here X.hx rfl (pc0 := pc) rfl (X.hb hd) rfl hin hoff ho ht k) K
theorem w_ldcI (X : Sd Z n0 kk code ml own nm ret h p l e R s m args below meth c T locs cells slots) {i : Nat} {v : Int32} (hd : Dc code pc (.ldc i) 2 pc') (hw : (Cond.constant own i v).before a0 Z = true) (K : Wp p e below P (T.setTop (mkF m pc' L (.int v :: S)))) : Wp p e below P (T.setTop (mkF m pc L S)) := by
  obtain ⟨hd, rfl⟩ := hd
  exact Wp.of (fun _ k => X.st.ldcInt X.hx X.hown (mvT X.hZ hw) (g := mkF m pc L S) rfl (X.hb hd) _ k) K
theorem w_ldc2J (X : Sd Z n0 kk code ml own nm ret h p l e R s m args below meth c T locs cells slots) {i : Nat} {v : Int64} (hd : Dc code pc (.ldc2_w i) 3 pc') (hw : (Cond.constantLong own i v).before a0 Z = true) (K : Wp p e below P (T.setTop (mkF m pc' L (.long v :: S)))) : Wp p e below P (T.setTop (mkF m pc L S)) := by
  obtain ⟨hd, rfl⟩ := hd
  exact Wp.of (fun _ k => X.st.ldc2Long X.hx X.hown (mvT X.hZ hw) (g := mkF m pc L S) rfl (X.hb hd) _ k) K
end Steps
/-- what a contract says of the end -/
def Po (Z : State) (n0 : Nat) (s : State) (Q : Option Value → Heap → Prop) (ce sl : Nat) : State → Outcome → Prop := fun U o => ∃ v L, o = .returned v ∧ (Fr n0 L ∧ Old Z n0 U.heap ∧ s.heap.size ≤ U.heap.size ∧ Q v U.heap) ∧ FrameEnd s o U L ce sl
/-- called with these arguments at the heap h0, y returns and Q holds of what it returns and of the heap behind it -/
def Does (l : Launch) (Z : State) (n0 : Nat) (y : MethodName) (code : ByteArray) (ml : Nat) (ret : Option FieldType) (ws : List Cond) (rm : Room) (as' : Array Value) (h0 : Heap) (Q : Option Value → Heap → Prop) : Prop :=
  Old Z n0 h0 → MetFree l y (head1 (Cond.code y code ml ret :: ws) rm) (fun a U => a = as' ∧ Z.Warmed39 U.vm ∧ U.heap = h0) (fun _ _ _ _ _ => True) (fun _ U o U' => ∃ v L, o = .returned v ∧ (Fr n0 L ∧ Old Z n0 U'.heap ∧ h0.size ≤ U'.heap.size ∧ Q v U'.heap) ∧ FrameEnd U o U' L rm.cells rm.slots)
theorem Does.start {l : Launch} {Z : State} {n0 : Nat} {y : MethodName} {code : ByteArray} {ml : Nat} {ret : Option FieldType} {ws : List Cond} {rm : Room} {as' : Array Value} {h0 : Heap} {Q : Option Value → Heap → Prop} (hp : plainFor y = true)
    (body : ∀ p e s m below meth c s₁, Sd Z n0 0 code ml y.cls y.name ret h0 p l e rm s m as' below meth c s₁ [] 0 0 → Wp p e below (Po Z n0 s Q rm.cells rm.slots) (s₁.setTop (entryFrame m as' ml))) : Does l Z n0 y code ml ret ws rm as' h0 Q := by
  intro hold
  refine MetFree.of_bodySF hp hisR ?_
  intro p e s m args below meth c s₁ Bd hml0 hP hK
  obtain ⟨rfl, hZ, hh⟩ := hP
  have hh' := hh
  subst hh
  exact body p e s m below meth c s₁ ⟨Stand.of_body Bd, ⟨Bd.exec, Bd.bytes, hml0, findClass_of_methodNamed Bd.named, hZ, Bd.returns, (name_of_methodNamed Bd.named Bd.method).1, Bd.notSynchronized⟩, by rw [Bd.state]; rfl, Fr.nil n0, hold, Nat.zero_le _⟩
theorem Does.mono {l : Launch} {Z : State} {n0 : Nat} {y : MethodName} {code : ByteArray} {ml : Nat} {ret : Option FieldType} {ws : List Cond} {rm : Room} {as' : Array Value} {h0 : Heap} {Q Q' : Option Value → Heap → Prop} (D : Does l Z n0 y code ml ret ws rm as' h0 Q) (f : ∀ v h, Q v h → Q' v h) : Does l Z n0 y code ml ret ws rm as' h0 Q' := by
  intro hold p e ha hc hk s m args below hf happ hP hK
  obtain ⟨n, o, h1, h2, h3, v, L, e1, ⟨q1, q2, q2', q3⟩, q4⟩ := D hold p e ha hc hk s m args below hf happ hP hK
  exact ⟨n, o, h1, h2, h3, v, L, e1, ⟨q1, q2, q2', f _ _ q3⟩, q4⟩
section Steps2
variable {Z : State} {n0 kk : Nat} {code : ByteArray} {ml : Nat} {own nm : String} {ret : Option FieldType} {h : Heap} {p : Program} {l : Launch} {e : Env} {R : Room} {s : State} {m : MethodId} {args : Array Value} {below : List Frame} {meth : Method} {c : Code} {T : State} {locs : List Loc} {cells slots : Nat} {P : State → Outcome → Prop} {a0 : Array Value} {pc pc' : Nat} {L : Array Slot} {S : List Value} {Q : Option Value → Heap → Prop} {ce sl : Nat}
theorem Sd.done (X : Sd Z n0 kk code ml own nm ret h p l e R s m args below meth c T locs cells slots) {v : Option Value} (hv : ret = none → v = none) (hq : Q v h) (hc : cells ≤ ce) (hs : slots ≤ sl) {g : JFrame} (step : ∀ fs, (∀ (f : JFrame) (acts : List Action), f.method = m → f.locked = none → f.entered = [] → (doReturn e (T.setTop f) acts v).1 = T.setFrames fs) → Steps p.tables e below (T.setTop g) (T.setFrames fs)) : Wp p e below (Po Z n0 s Q ce sl) (T.setTop g) := by
  obtain ⟨fs, hr, hrun, hended, hW, hsame⟩ := X.st.leave (v := v) (fun q => hv (X.hret ▸ q)) X.hlk
  have e1 : (T.setFrames fs).heap = h := X.eh
  refine ⟨_, _, step fs hr, hrun, hended, v, locs, rfl, ⟨X.fr, ?_, X.st.same.2.1, ?_⟩, ⟨_, rfl⟩, hW, hsame.mono hc hs⟩
  · rw [e1]; exact X.old
  · rw [e1]; exact hq
theorem w_retI (X : Sd Z n0 kk code ml own nm (some .int) h p l e R s m args below meth c T locs cells slots) {z : Int32} (hd : Dc code pc .ireturn 1 pc') (hq : Q (some (.int z)) h) (hc : cells ≤ ce) (hs : slots ≤ sl) : Wp p e below (Po Z n0 s Q ce sl) (T.setTop (mkF m pc L (.int z :: S))) :=
  X.done nofun hq hc hs fun fs hr => retOut X.st X.hx X.hret rfl (Or.inl ⟨rfl, Or.inl rfl, z, rfl⟩) (X.hb hd.1) hr
theorem w_ret_boolean (X : Sd Z n0 kk code ml own nm (some .boolean) h p l e R s m args below meth c T locs cells slots) {z : Int32} (z' : Int32) (hz : nar .boolean z = z') (hd : Dc code pc .ireturn 1 pc') (hq : Q (some (.int z')) h) (hc : cells ≤ ce) (hs : slots ≤ sl) : Wp p e below (Po Z n0 s Q ce sl) (T.setTop (mkF m pc L (.int z :: S))) := by
  subst hz
  exact X.done nofun hq hc hs fun fs hr => retN X.st X.hx X.hret (by simp) (X.hb hd.1) hr
theorem w_ret_byte (X : Sd Z n0 kk code ml own nm (some .byte) h p l e R s m args below meth c T locs cells slots) {z : Int32} (z' : Int32) (hz : nar .byte z = z') (hd : Dc code pc .ireturn 1 pc') (hq : Q (some (.int z')) h) (hc : cells ≤ ce) (hs : slots ≤ sl) : Wp p e below (Po Z n0 s Q ce sl) (T.setTop (mkF m pc L (.int z :: S))) := by
  subst hz
  exact X.done nofun hq hc hs fun fs hr => retN X.st X.hx X.hret (by simp) (X.hb hd.1) hr
theorem w_ret_char (X : Sd Z n0 kk code ml own nm (some .char) h p l e R s m args below meth c T locs cells slots) {z : Int32} (z' : Int32) (hz : nar .char z = z') (hd : Dc code pc .ireturn 1 pc') (hq : Q (some (.int z')) h) (hc : cells ≤ ce) (hs : slots ≤ sl) : Wp p e below (Po Z n0 s Q ce sl) (T.setTop (mkF m pc L (.int z :: S))) := by
  subst hz
  exact X.done nofun hq hc hs fun fs hr => retN X.st X.hx X.hret (by simp) (X.hb hd.1) hr
theorem w_ret_short (X : Sd Z n0 kk code ml own nm (some .short) h p l e R s m args below meth c T locs cells slots) {z : Int32} (z' : Int32) (hz : nar .short z = z') (hd : Dc code pc .ireturn 1 pc') (hq : Q (some (.int z')) h) (hc : cells ≤ ce) (hs : slots ≤ sl) : Wp p e below (Po Z n0 s Q ce sl) (T.setTop (mkF m pc L (.int z :: S))) := by
  subst hz
  exact X.done nofun hq hc hs fun fs hr => retN X.st X.hx X.hret (by simp) (X.hb hd.1) hr
theorem w_retJ (X : Sd Z n0 kk code ml own nm (some .long) h p l e R s m args below meth c T locs cells slots) {z : Int64} (hd : Dc code pc .lreturn 1 pc') (hq : Q (some (.long z)) h) (hc : cells ≤ ce) (hs : slots ≤ sl) : Wp p e below (Po Z n0 s Q ce sl) (T.setTop (mkF m pc L (.long z :: S))) :=
  X.done nofun hq hc hs fun fs hr => retOut X.st X.hx X.hret rfl (Or.inr (Or.inl ⟨rfl, rfl, z, rfl⟩)) (X.hb hd.1) hr
theorem w_retR (X : Sd Z n0 kk code ml own nm ret h p l e R s m args below meth c T locs cells slots) {t : FieldType} {z : Value} (ht : t.isReference = true) (hz : z.isRef = true) (hret : ret = some t) (hd : Dc code pc .areturn 1 pc') (hq : Q (some z) h) (hc : cells ≤ ce) (hs : slots ≤ sl) : Wp p e below (Po Z n0 s Q ce sl) (T.setTop (mkF m pc L (z :: S))) := by
  subst hret
  exact X.done nofun hq hc hs fun fs hr => retOut X.st X.hx X.hret (by rcases ref_cases hz with rfl | ⟨z, rfl⟩ <;> cases t <;> first | rfl | cases ht) (Or.inr (Or.inr (Or.inr (Or.inr ⟨rfl, ht, hz⟩)))) (X.hb hd.1) hr
theorem w_retV (X : Sd Z n0 kk code ml own nm (none) h p l e R s m args below meth c T locs cells slots) (hd : Dc code pc .return_ 1 pc') (hq : Q none h) (hc : cells ≤ ce) (hs : slots ≤ sl) : Wp p e below (Po Z n0 s Q ce sl) (T.setTop (mkF m pc L [])) :=
  X.done (fun _ => rfl) hq hc hs fun fs hr => X.st.returnOut X.hx X.hret (X.hb hd.1) hr
theorem w_getF (X : Sd Z n0 kk code ml own nm ret h p l e R s m args below meth c T locs cells slots) {R0 O n d host : String} {index : Nat} {a : Addr} {v : Value} (hd : Dc code pc (.getfield index) 3 pc') (w : (Cond.fieldLink own index R0 n d).before a0 Z = true ∨ (Cond.fieldLinkNest own index R0 n d host).before a0 Z = true) (via : Via Z R0 O n d) (F : Fld Z h a O n d v) (K : ∀ T', Sd Z n0 kk code ml own nm ret h p l e R s m args below meth c T' locs cells slots → Wp p e below P (T'.setTop (mkF m pc' L (v :: S)))) : Wp p e below P (T.setTop (mkF m pc L (.ref a :: S))) := by
  obtain ⟨hd, rfl⟩ := hd
  obtain ⟨T', X', e', st⟩ := getF X.st X.hx X.hZ X.hown w via X.eh F (g := mkF m pc L (.ref a :: S)) rfl rfl (X.hb hd)
  exact Wp.of st (K T' (X.mk' X' e' X.fr X.old (Nat.le_refl _)))
theorem w_getS (X : Sd Z n0 kk code ml own nm ret h p l e R s m args below meth c T locs cells slots) {R0 O n d host : String} {index : Nat} {v : Value} (hd : Dc code pc (.getstatic index) 3 pc') (w : (Cond.fieldLink own index R0 n d).before a0 Z = true ∨ (Cond.fieldLinkNest own index R0 n d host).before a0 Z = true) (via : Via Z R0 O n d) (F : Sta Z h O n d v) (K : ∀ T', Sd Z n0 kk code ml own nm ret h p l e R s m args below meth c T' locs cells slots → Wp p e below P (T'.setTop (mkF m pc' L (v :: S)))) : Wp p e below P (T.setTop (mkF m pc L S)) := by
  obtain ⟨hd, rfl⟩ := hd
  obtain ⟨T', X', e', st⟩ := getS2 X.st X.hx X.hZ X.hown w via X.eh F (g := mkF m pc L S) rfl (X.hb hd)
  exact Wp.of st (K T' (X.mk' X' e' X.fr X.old (Nat.le_refl _)))
theorem w_putF (X : Sd Z n0 kk code ml own nm ret h p l e R s m args below meth c T locs cells slots) {R0 O n d host C : String} {index ni : Nat} {ty : FieldType} {a : Addr} {v old : Value} (hd : Dc code pc (.putfield index) 3 pc')  (w : (Cond.fieldLink own index R0 n d).before a0 Z = true ∨ (Cond.fieldLinkNest own index R0 n d host).before a0 Z = true) (via : Via Z R0 O n d) (F : Fld Z h a O n d old) (E : Exa Z h a C) (L0 : (Cond.lays C O n d).before a0 Z = true ∨ ((Cond.laysFinal C O n d).before a0 Z = true ∧ own = O ∧ nm = "<init>")) (wi : (Cond.instantiable C ni).before a0 Z = true) (hty : parseFieldDescriptor d = some ty) (hn : narrow ty v = v) (hf : fits ty v = true) (ga : n0 ≤ a) (K : ∀ T' h', Sd Z n0 kk code ml own nm ret h' p l e R s m args below meth c T' (locs ++ [⟨a, slotOf Z O n d⟩]) cells slots → Wr h h' a (slotOf Z O n d) v → Wp p e below P (T'.setTop (mkF m pc' L S))) : Wp p e below P (T.setTop (mkF m pc L (v :: .ref a :: S))) := by
  obtain ⟨hd, rfl⟩ := hd
  obtain ⟨T', h', X', e', W, st⟩ := putF X.st X.hx X.hZ X.hown w via X.eh F E (L0.imp id fun q => ⟨q.1, q.2.1, X.hnm.trans q.2.2⟩) wi hty hn hf (g := mkF m pc L (v :: .ref a :: S)) rfl rfl (X.hb hd)
  exact Wp.of st (K T' h' (X.mk' X' e' (Fr.snoc X' X.fr ga) (X.old.wr W ga) (Nat.le_of_eq W.size.symm)) W)
theorem w_putFN (X : Sd Z n0 kk code ml own nm ret h p l e R s m args below meth c T locs cells slots) {R0 O n d C : String} {index ni : Nat} {ty : FieldType} {a : Addr} {v old : Value} (hd : Dc code pc (.putfield index) 3 pc')  (w : (Cond.fieldLink own index R0 n d).before a0 Z = true) (via : Via Z R0 O n d) (F : Fld Z h a O n d old) (E : Exa Z h a C) (L0 : (Cond.lays C O n d).before a0 Z = true ∨ ((Cond.laysFinal C O n d).before a0 Z = true ∧ own = O ∧ nm = "<init>")) (wi : (Cond.instantiable C ni).before a0 Z = true) (hty : parseFieldDescriptor d = some ty) (v' : Value) (hn : narrow ty v = v') (hf : fits ty v' = true) (ga : n0 ≤ a) (K : ∀ T' h', Sd Z n0 kk code ml own nm ret h' p l e R s m args below meth c T' (locs ++ [⟨a, slotOf Z O n d⟩]) cells slots → Wr h h' a (slotOf Z O n d) v' → Wp p e below P (T'.setTop (mkF m pc' L S))) : Wp p e below P (T.setTop (mkF m pc L (v :: .ref a :: S))) := by
  obtain ⟨hd, rfl⟩ := hd
  obtain ⟨T', h', X', e', W, st⟩ := putFN X.st X.hx X.hZ X.hown w via X.eh F E (L0.imp id fun q => ⟨q.1, q.2.1, X.hnm.trans q.2.2⟩) wi hty hn hf (g := mkF m pc L (v :: .ref a :: S)) rfl rfl (X.hb hd)
  exact Wp.of st (K T' h' (X.mk' X' e' (Fr.snoc X' X.fr ga) (X.old.wr W ga) (Nat.le_of_eq W.size.symm)) W)
theorem w_new (X : Sd Z n0 kk code ml own nm ret h p l e R s m args below meth c T locs cells slots) {C : String} {index n : Nat} (hd : Dc code pc (.new index) 3 pc') (w1 : (Cond.classLink own index C).before a0 Z = true) (wi : (Cond.instantiable C n).before a0 Z = true) (wz : (Cond.initialized C).before a0 Z = true) (hc : cells + 1 ≤ R.cells) (hl : slots + n ≤ R.slots) (K : ∀ T' h' b, b = h.size → n0 ≤ b → Sd Z n0 kk code ml own nm ret h' p l e R s m args below meth c T' locs (cells + 1) (slots + n) → Ext h h' → Exa Z h' b C → (∀ {O nm' d : String} {ty : FieldType}, Laid Z a0 C O nm' d → parseFieldDescriptor d = some ty → Fld Z h' b O nm' d (defaultValue ty)) → Wp p e below P (T'.setTop (mkF m pc' L (.ref b :: S)))) : Wp p e below P (T.setTop (mkF m pc L S)) := by
  obtain ⟨hd, rfl⟩ := hd
  obtain ⟨T', h', X', e', E, A, D, -, st⟩ := newO X.st X.hx X.hZ X.hown w1 wi wz X.eh (g := mkF m pc L S) rfl (X.hb hd) hc hl
  exact Wp.of st (K T' h' _ rfl (X.old.1 ▸ X.old.2.1) (X.mk' X' e' X.fr (X.old.ext E) E.1) E A D)
theorem w_initO (X : Sd Z n0 kk code ml own nm ret h p l e R s m args below meth c T locs cells slots) {index : Nat} {a : Addr} (hd : Dc code pc (.invokespecial index) 3 pc') (w1 : (Cond.methodLink own index Lib.objectInit).before a0 Z = true) (w2 : (Cond.instanceMethod Lib.objectInit).before a0 Z = true) (w3 : (Cond.code Lib.objectInit ⟨#[0xb1]⟩ 1 none).before a0 Z = true) (hsz : L.size = ml) (hf : 1 ≤ R.frames) (hl : (S.map fun v => v.category).sum + 12 ≤ R.locals) (K : ∀ T', Sd Z n0 kk code ml own nm ret h p l e R s m args below meth c T' locs cells slots → Wp p e below P (T'.setTop (mkF m pc' L S))) : Wp p e below P (T.setTop (mkF m pc L (.ref a :: S))) := by
  obtain ⟨hd, rfl⟩ := hd
  obtain ⟨T', X', e', st⟩ := initO X.st X.hx X.hZ X.hown w1 w2 w3 X.eh (g := mkF m pc L (.ref a :: S)) rfl (by rw [X.hml]; exact hsz) rfl (X.hb hd) hf (W := (S.map fun v => v.category).sum) (by show 2 * 0 + _ ≤ _; omega) hl
  exact Wp.of st (K T' (X.mk' X' e' X.fr X.old (Nat.le_refl _)))
theorem w_callS (X : Sd Z n0 kk code ml own nm ret h p l e R s m args below meth c T locs cells slots) {y : MethodName} {bytes : ByteArray} {maxL : Nat} {ret' : Option FieldType} {rm : Room} {index : Nat} {Q' : Option Value → Heap → Prop} {ps : List FieldType} {rr : Option FieldType} {stk : List Value} (hd : Dc code pc (.invokestatic index) 3 pc') (w1 : (Cond.methodLink own index y).before a0 Z = true) (w2 : (Cond.static y).before a0 Z = true) (w3 : (Cond.initialized y.cls).before a0 Z = true) (w4 : (Cond.code y bytes maxL ret').before a0 Z = true) (hy : y.cls ≠ "java/lang/invoke/MethodHandle" ∧ y.cls ≠ "java/lang/invoke/VarHandle") {argsL : List Value} (D : Does l Z n0 y bytes maxL ret' [] rm argsL.toArray h Q') (hpd : parseMethodDescriptor y.desc = some ⟨ps, rr⟩) (hlen : argsL.length = ps.length) (hst : stk = argsL.reverse ++ S) (hsz : L.size = ml) (hf : rm.frames + 1 ≤ R.frames) (hl : (S.map fun v => v.category).sum + (maxL + 11) + rm.locals ≤ R.locals) (hc : cells + rm.cells ≤ R.cells) (hs : slots + rm.slots ≤ R.slots) (K : ∀ T' h' v L', Sd Z n0 kk code ml own nm ret h' p l e R s m args below meth c T' (locs ++ L') (cells + rm.cells) (slots + rm.slots) → Q' v h' → Wp p e below P (T'.setTop (mkF m pc' L (v.toList ++ S)))) : Wp p e below P (T.setTop (mkF m pc L stk)) := by
  obtain ⟨hd, rfl⟩ := hd
  obtain ⟨v, vm1, ⟨T', L1, k1, n1⟩, -, X', ⟨Lc, hQ, l1, y1, z1⟩, st⟩ := Jvm.LawKit.callS X.st X.hx X.hown (mvT X.hZ w1) (mvT X.hZ w2) (mvT X.hZ w3) (mvT X.hZ w4) hy (backOf (Q := fun v h' L => Fr n0 L ∧ Old Z n0 h' ∧ h.size ≤ h'.size ∧ Q' v h') (W := (S.map fun v => v.category).sum) (D X.old) X.hZ w4 w3 hf hl) (g := mkF m pc L stk) rfl (by rw [X.hml]; exact hsz) (argsL := argsL) (rest := S) (lenOf hpd hlen) hst (by show 2 * 0 + _ ≤ _; omega) (X.hb hd) (fun _ _ => ⟨rfl, X.eh, hc, hs⟩)
  dsimp only [Pt.U, Pt.locs, Pt.cells, Pt.slots] at X' l1 y1 z1 st hQ
  subst l1 y1 z1
  exact Wp.of st (K T' _ v Lc (X.mk' X' rfl (X.fr.app hQ.1) hQ.2.1 hQ.2.2.1) hQ.2.2.2)
theorem w_callI (X : Sd Z n0 kk code ml own nm ret h p l e R s m args below meth c T locs cells slots) {y : MethodName} {bytes : ByteArray} {maxL : Nat} {rm : Room} {index : Nat} {Q' : Option Value → Heap → Prop} {ps : List FieldType} {rr : Option FieldType} {stk : List Value} (hd : Dc code pc (.invokespecial index) 3 pc') (hi : y.name = "<init>") (w1 : (Cond.methodLink own index y).before a0 Z = true) (w2 : (Cond.instanceMethod y).before a0 Z = true) (w3 : (Cond.initialized y.cls).before a0 Z = true) (w4 : (Cond.code y bytes maxL none).before a0 Z = true) (hy : y.cls ≠ "java/lang/invoke/MethodHandle" ∧ y.cls ≠ "java/lang/invoke/VarHandle") {a : Addr} {argsL : List Value} (D : Does l Z n0 y bytes maxL none [] rm (.ref a :: argsL).toArray h Q') (hpd : parseMethodDescriptor y.desc = some ⟨ps, rr⟩) (hlen : argsL.length = ps.length) (hst : stk = argsL.reverse ++ .ref a :: S) (hsz : L.size = ml) (hf : rm.frames + 1 ≤ R.frames) (hl : (S.map fun v => v.category).sum + (maxL + 11) + rm.locals ≤ R.locals) (hc : cells + rm.cells ≤ R.cells) (hs : slots + rm.slots ≤ R.slots) (K : ∀ T' h' v L', Sd Z n0 kk code ml own nm ret h' p l e R s m args below meth c T' (locs ++ L') (cells + rm.cells) (slots + rm.slots) → Q' v h' → Wp p e below P (T'.setTop (mkF m pc' L (v.toList ++ S)))) : Wp p e below P (T.setTop (mkF m pc L stk)) := by
  obtain ⟨hd, rfl⟩ := hd
  obtain ⟨v, vm1, ⟨T', L1, k1, n1⟩, -, X', ⟨Lc, hQ, l1, y1, z1⟩, st⟩ := X.st.specialBack X.hx hi X.hown (mvT X.hZ w1) (mvT X.hZ w2) (mvT X.hZ w4) hy (backOf (Q := fun v h' L => Fr n0 L ∧ Old Z n0 h' ∧ h.size ≤ h'.size ∧ Q' v h') (W := (S.map fun v => v.category).sum) (D X.old) X.hZ w4 w3 hf hl) (g := mkF m pc L stk) rfl (by rw [X.hml]; exact hsz) (Steps.refl _) (a := a) (argsL := argsL) (rest := S) (lenOf hpd hlen) hst (by show 2 * 0 + _ ≤ _; omega) (X.hb hd) (fun _ _ => ⟨rfl, X.eh, hc, hs⟩)
  dsimp only [Pt.U, Pt.locs, Pt.cells, Pt.slots] at X' l1 y1 z1 st hQ
  subst l1 y1 z1
  exact Wp.tr st (K T' _ v Lc (X.mk' X' rfl (X.fr.app hQ.1) hQ.2.1 hQ.2.2.1) hQ.2.2.2)
theorem w_callV (X : Sd Z n0 kk code ml own nm ret h p l e R s m args below meth c T locs cells slots) {y : MethodName} {bytes : ByteArray} {maxL : Nat} {ret' : Option FieldType} {rm : Room} {index : Nat} {Q' : Option Value → Heap → Prop} {ps : List FieldType} {rr : Option FieldType} {stk : List Value} {z : MethodName} {C : String} (hd : Dc code pc (.invokevirtual index) 3 pc') (w1 : (Cond.methodLink own index y).before a0 Z = true) (wd : (Cond.declares y).before a0 Z = true) (hnf : NotFace s y) (ws : (Cond.selects C y z).before a0 Z = true) (w2 : (Cond.instanceMethod z).before a0 Z = true) (w3 : (Cond.initialized z.cls).before a0 Z = true) (w4 : (Cond.code z bytes maxL ret').before a0 Z = true) (hy : y.cls ≠ "java/lang/invoke/MethodHandle" ∧ y.cls ≠ "java/lang/invoke/VarHandle") {a : Addr} (E : Exa Z h a C) {argsL : List Value} (D : Does l Z n0 z bytes maxL ret' [] rm (.ref a :: argsL).toArray h Q') (hpd : parseMethodDescriptor y.desc = some ⟨ps, rr⟩) (hlen : argsL.length = ps.length) (hst : stk = argsL.reverse ++ .ref a :: S) (hsz : L.size = ml) (hf : rm.frames + 1 ≤ R.frames) (hl : (S.map fun v => v.category).sum + (maxL + 11) + rm.locals ≤ R.locals) (hc : cells + rm.cells ≤ R.cells) (hs : slots + rm.slots ≤ R.slots) (K : ∀ T' h' v L', Sd Z n0 kk code ml own nm ret h' p l e R s m args below meth c T' (locs ++ L') (cells + rm.cells) (slots + rm.slots) → Q' v h' → Wp p e below P (T'.setTop (mkF m pc' L (v.toList ++ S)))) : Wp p e below P (T.setTop (mkF m pc L stk)) := by
  obtain ⟨hd, rfl⟩ := hd
  obtain ⟨cq, kq, qa, qb, qc⟩ := isOf X.hZ X.eh E
  obtain ⟨v, vm1, ⟨T', L1, k1, n1⟩, -, X', ⟨Lc, hQ, l1, y1, z1⟩, st⟩ := X.st.virtualBack X.hx X.hown (mvT X.hZ w1) (mvT X.hZ wd) hnf (mvT X.hZ ws) (mvT X.hZ w2) hy (backOf (Q := fun v h' L => Fr n0 L ∧ Old Z n0 h' ∧ h.size ≤ h'.size ∧ Q' v h') (W := (S.map fun v => v.category).sum) (D X.old) X.hZ w4 w3 hf hl) qa qc (g := mkF m pc L stk) rfl (by rw [X.hml]; exact hsz) (Steps.refl _) (argsL := argsL) (rest := S) (lenOf hpd hlen) hst (by show 2 * 0 + _ ≤ _; omega) (X.hb hd) (fun _ _ => ⟨rfl, X.eh, hc, hs⟩)
  dsimp only [Pt.U, Pt.locs, Pt.cells, Pt.slots] at X' l1 y1 z1 st hQ
  subst l1 y1 z1
  exact Wp.tr st (K T' _ v Lc (X.mk' X' rfl (X.fr.app hQ.1) hQ.2.1 hQ.2.2.1) hQ.2.2.2)
theorem w_callP (X : Sd Z n0 kk code ml own nm ret h p l e R s m args below meth c T locs cells slots) {y : MethodName} {bytes : ByteArray} {maxL : Nat} {ret' : Option FieldType} {rm : Room} {index : Nat} {Q' : Option Value → Heap → Prop} {ps : List FieldType} {rr : Option FieldType} {stk : List Value} (hd : Dc code pc (.invokevirtual index) 3 pc') (w1 : (Cond.methodLink own index y).before a0 Z = true) (w2 : (Cond.instanceMethod y).before a0 Z = true) (ws : (Cond.selects y.cls y y).before a0 Z = true) (wp : (Cond.privateMethod y).before a0 Z = true) (w3 : (Cond.initialized y.cls).before a0 Z = true) (w4 : (Cond.code y bytes maxL ret').before a0 Z = true) (hy : y.cls ≠ "java/lang/invoke/MethodHandle" ∧ y.cls ≠ "java/lang/invoke/VarHandle") {a : Addr} {C : String} (E : Exa Z h a C) {argsL : List Value} (D : Does l Z n0 y bytes maxL ret' [] rm (.ref a :: argsL).toArray h Q') (hpd : parseMethodDescriptor y.desc = some ⟨ps, rr⟩) (hlen : argsL.length = ps.length) (hst : stk = argsL.reverse ++ .ref a :: S) (hsz : L.size = ml) (hf : rm.frames + 1 ≤ R.frames) (hl : (S.map fun v => v.category).sum + (maxL + 11) + rm.locals ≤ R.locals) (hc : cells + rm.cells ≤ R.cells) (hs : slots + rm.slots ≤ R.slots) (K : ∀ T' h' v L', Sd Z n0 kk code ml own nm ret h' p l e R s m args below meth c T' (locs ++ L') (cells + rm.cells) (slots + rm.slots) → Q' v h' → Wp p e below P (T'.setTop (mkF m pc' L (v.toList ++ S)))) : Wp p e below P (T.setTop (mkF m pc L stk)) := by
  obtain ⟨hd, rfl⟩ := hd
  obtain ⟨cq, qa, qb⟩ := E.cell
  obtain ⟨v, vm1, ⟨T', L1, k1, n1⟩, -, X', ⟨Lc, hQ, l1, y1, z1⟩, st⟩ := X.st.privateBack X.hx X.hown (mvT X.hZ w1) (mvT X.hZ w2) (mvT X.hZ ws) (Cond.privateMethod_at (mvP X.hZ wp (args := #[]))) (mvT X.hZ w4) hy (backOf (Q := fun v h' L => Fr n0 L ∧ Old Z n0 h' ∧ h.size ≤ h'.size ∧ Q' v h') (W := (S.map fun v => v.category).sum) (D X.old) X.hZ w4 w3 hf hl) (g := mkF m pc L stk) rfl (by rw [X.hml]; exact hsz) (Steps.refl _) (a := a) (by rw [X.eh]; exact qa) qb (argsL := argsL) (rest := S) (lenOf hpd hlen) hst (by show 2 * 0 + _ ≤ _; omega) (X.hb hd) (fun _ _ => ⟨rfl, X.eh, hc, hs⟩)
  dsimp only [Pt.U, Pt.locs, Pt.cells, Pt.slots] at X' l1 y1 z1 st hQ
  subst l1 y1 z1
  exact Wp.tr st (K T' _ v Lc (X.mk' X' rfl (X.fr.app hQ.1) hQ.2.1 hQ.2.2.1) hQ.2.2.2)
theorem w_callU (X : Sd Z n0 kk code ml own nm ret h p l e R s m args below meth c T locs cells slots) {y : MethodName} {bytes : ByteArray} {maxL : Nat} {ret' : Option FieldType} {rm : Room} {index : Nat} {Q' : Option Value → Heap → Prop} {ps : List FieldType} {rr : Option FieldType} {stk : List Value} {z : MethodName} {C owner : String} (hd : Dc code pc (.invokevirtual index) 3 pc') (w1 : (Cond.methodLink own index y).before a0 Z = true) (wsm : (Cond.sameMethod y.cls owner y.name y.desc).before a0 Z = true) (wd : (Cond.declares ⟨owner, y.name, y.desc⟩).before a0 Z = true) (ho : owner ≠ "java/lang/invoke/MethodHandle" ∧ owner ≠ "java/lang/invoke/VarHandle") (ws : (Cond.selects C y z).before a0 Z = true) (w2 : (Cond.instanceMethod z).before a0 Z = true) (w3 : (Cond.initialized z.cls).before a0 Z = true) (w4 : (Cond.code z bytes maxL ret').before a0 Z = true) {a : Addr} (E : Exa Z h a C) {argsL : List Value} (D : Does l Z n0 z bytes maxL ret' [] rm (.ref a :: argsL).toArray h Q') (hpd : parseMethodDescriptor y.desc = some ⟨ps, rr⟩) (hlen : argsL.length = ps.length) (hst : stk = argsL.reverse ++ .ref a :: S) (hsz : L.size = ml) (hf : rm.frames + 1 ≤ R.frames) (hl : (S.map fun v => v.category).sum + (maxL + 11) + rm.locals ≤ R.locals) (hc : cells + rm.cells ≤ R.cells) (hs : slots + rm.slots ≤ R.slots) (K : ∀ T' h' v L', Sd Z n0 kk code ml own nm ret h' p l e R s m args below meth c T' (locs ++ L') (cells + rm.cells) (slots + rm.slots) → Q' v h' → Wp p e below P (T'.setTop (mkF m pc' L (v.toList ++ S)))) : Wp p e below P (T.setTop (mkF m pc L stk)) := by
  obtain ⟨hd, rfl⟩ := hd
  obtain ⟨cq, kq, qa, qb, qc⟩ := isOf X.hZ X.eh E
  obtain ⟨v, vm1, ⟨T', L1, k1, n1⟩, -, X', ⟨Lc, hQ, l1, y1, z1⟩, st⟩ := X.st.virtualBackUp X.hx X.hown (mvT X.hZ w1) (mvT X.hZ wsm) (mvT X.hZ wd) ho (mvT X.hZ ws) (mvT X.hZ w2) (backOf (Q := fun v h' L => Fr n0 L ∧ Old Z n0 h' ∧ h.size ≤ h'.size ∧ Q' v h') (W := (S.map fun v => v.category).sum) (D X.old) X.hZ w4 w3 hf hl) qa qc (g := mkF m pc L stk) rfl (by rw [X.hml]; exact hsz) (Steps.refl _) (argsL := argsL) (rest := S) (lenOf hpd hlen) hst (by show 2 * 0 + _ ≤ _; omega) (X.hb hd) (fun _ _ => ⟨rfl, X.eh, hc, hs⟩)
  dsimp only [Pt.U, Pt.locs, Pt.cells, Pt.slots] at X' l1 y1 z1 st hQ
  subst l1 y1 z1
  exact Wp.tr st (K T' _ v Lc (X.mk' X' rfl (X.fr.app hQ.1) hQ.2.1 hQ.2.2.1) hQ.2.2.2)
end Steps2
end Jvm.RoadKit
namespace Jvm.RoadKit
open Sem ClassFile Op Lib Jvm.Stand Jvm.Free Jvm.LawKit
section StepsD
variable {Z : State} {n0 kk : Nat} {code : ByteArray} {ml : Nat} {own nm : String} {ret : Option FieldType} {h : Heap} {p : Program} {l : Launch} {e : Env} {R : Room} {s : State} {m : MethodId} {args : Array Value} {below : List Frame} {meth : Method} {c : Code} {T : State} {locs : List Loc} {cells slots : Nat} {P : State → Outcome → Prop} {a0 : Array Value} {pc pc' : Nat} {L : Array Slot} {S : List Value}
theorem w_dloadN (X : Sd Z n0 kk code ml own nm ret h p l e R s m args below meth c T locs cells slots) {k : Fin 4} {v : UInt64} (hd : Dc code pc (.dload_n k) 1 pc') (hl : L[k.val]? = some (.val (.double v))) (K : Wp p e below P (T.setTop (mkF m pc' L (.double v :: S)))) : Wp p e below P (T.setTop (mkF m pc L S)) := by
  obtain ⟨hd, rfl⟩ := hd
  exact Wp.of (fun _ k => XS.dloadN X.st.here X.hx rfl (X.hb hd) hl k) K
theorem w_dload (X : Sd Z n0 kk code ml own nm ret h p l e R s m args below meth c T locs cells slots) {k : Nat} {v : UInt64} (hd : Dc code pc (.dload k) 2 pc') (hl : L[k]? = some (.val (.double v))) (K : Wp p e below P (T.setTop (mkF m pc' L (.double v :: S)))) : Wp p e below P (T.setTop (mkF m pc L S)) := by
  obtain ⟨hd, rfl⟩ := hd
  exact Wp.of (fun _ k => XS.dload X.st.here X.hx rfl (X.hb hd) hl k) K
theorem w_dstoreN (X : Sd Z n0 kk code ml own nm ret h p l e R s m args below meth c T locs cells slots) {k : Fin 4} {v : UInt64} (L' : Array Slot) (hd : Dc code pc (.dstore_n k) 1 pc') (hl : storeLocals L k.val (.double v) = some L') (K : Wp p e below P (T.setTop (mkF m pc' L' S))) : Wp p e below P (T.setTop (mkF m pc L (.double v :: S))) := by
  obtain ⟨hd, rfl⟩ := hd
  exact Wp.of (fun _ k => XS.dstoreN X.st.here X.hx rfl (X.hb hd) rfl hl k) K
theorem w_dstore (X : Sd Z n0 kk code ml own nm ret h p l e R s m args below meth c T locs cells slots) {k : Nat} {v : UInt64} (L' : Array Slot) (hd : Dc code pc (.dstore k) 2 pc') (hl : storeLocals L k (.double v) = some L') (K : Wp p e below P (T.setTop (mkF m pc' L' S))) : Wp p e below P (T.setTop (mkF m pc L (.double v :: S))) := by
  obtain ⟨hd, rfl⟩ := hd
  exact Wp.of (fun _ k => XS.dstore X.st.here X.hx rfl (X.hb hd) rfl hl k) K
theorem w_dconst0 (X : Sd Z n0 kk code ml own nm ret h p l e R s m args below meth c T locs cells slots)  (hd : Dc code pc (.dconst 0) 1 pc')  (K : Wp p e below P (T.setTop (mkF m pc' L (.double FP.dconst0 :: S)))) : Wp p e below P (T.setTop (mkF m pc L S)) := by
  obtain ⟨hd, rfl⟩ := hd
  exact Wp.of (fun _ k => XS.dconst0 X.st.here X.hx rfl (X.hb hd) rfl k) K
theorem w_l2d (X : Sd Z n0 kk code ml own nm ret h p l e R s m args below meth c T locs cells slots) {x : Int64} (hd : Dc code pc (.l2d) 1 pc')  (K : Wp p e below P (T.setTop (mkF m pc' L (.double (FP.l2d x) :: S)))) : Wp p e below P (T.setTop (mkF m pc L (.long x :: S))) := by
  obtain ⟨hd, rfl⟩ := hd
  exact Wp.of (fun _ k => XS.l2dS X.st.here X.hx rfl (X.hb hd) rfl rfl k) K
theorem w_dneg (X : Sd Z n0 kk code ml own nm ret h p l e R s m args below meth c T locs cells slots) {x : UInt64} (hd : Dc code pc (.dneg) 1 pc')  (K : Wp p e below P (T.setTop (mkF m pc' L (.double (FP.dneg x) :: S)))) : Wp p e below P (T.setTop (mkF m pc L (.double x :: S))) := by
  obtain ⟨hd, rfl⟩ := hd
  exact Wp.of (fun _ k => XS.dnegS X.st.here X.hx rfl (X.hb hd) rfl rfl k) K
theorem w_dcmpl (X : Sd Z n0 kk code ml own nm ret h p l e R s m args below meth c T locs cells slots) {x y : UInt64} (hd : Dc code pc (.dcmp .l) 1 pc')  (K : Wp p e below P (T.setTop (mkF m pc' L (.int (cmpValue (FP.dcmp x y) .l) :: S)))) : Wp p e below P (T.setTop (mkF m pc L (.double y :: .double x :: S))) := by
  obtain ⟨hd, rfl⟩ := hd
  exact Wp.of (fun _ k => XS.dcmpS X.st.here X.hx rfl (X.hb hd) rfl rfl k) K
end StepsD
end Jvm.RoadKit
namespace Jvm.Pilot.@@N@@
open Jvm Jvm.ClassFile Sem Op Lib Jvm.Free Jvm.Stand Jvm.LawKit Jvm.RoadKit Bundle Jvm.Pilot.@@N@@.Jvm.D
theorem own_pos {A : Nat} (hA : 0 < A) (s : Bool) : FP.Core.roundRatio FP.Core.b64 s A 1 0 = .inf s ∨ ∃ c q, 0 < c ∧ FP.Core.roundRatio FP.Core.b64 s A 1 0 = .fin s c q := by
  have hc : 0 < FP.Core.nearest (FP.Core.unitsNum A 0 (FP.Core.quantum FP.Core.b64 A 1 0)) (FP.Core.unitsDen 1 0 (FP.Core.quantum FP.Core.b64 A 1 0)) := by
    rcases FP.Core.quantum_not_below (f := FP.Core.b64) hA (by decide : 0 < 1) 0 with h2 | h2
    · refine FP.Core.nearest_ge (FP.Core.unitsDen_pos (by decide) ..) ?_
      rw [h2]
      show 1 * (1 * 2 ^ _) ≤ A * 2 ^ _
      have e1 : (FP.Core.b64.qmin - 0 : Int).toNat = 0 := by decide
      rw [e1]
      have := Nat.two_pow_pos ((0 - FP.Core.b64.qmin : Int).toNat)
      exact Nat.mul_le_mul hA this
    · refine Nat.lt_of_lt_of_le (FP.Core.tails_pos FP.Core.b64) (FP.Core.nearest_ge (FP.Core.unitsDen_pos (by decide) ..) ?_)
      rw [show ((FP.Core.b64.p : Int) - 1) = ((FP.Core.b64.p - 1 : Nat) : Int) by decide, ← FP.Core.units_below] at h2
      exact Nat.le_of_not_lt h2
  have e0 : FP.Core.roundRatio FP.Core.b64 s A 1 0 = FP.Core.settle FP.Core.b64 s (FP.Core.nearest (FP.Core.unitsNum A 0 (FP.Core.quantum FP.Core.b64 A 1 0)) (FP.Core.unitsDen 1 0 (FP.Core.quantum FP.Core.b64 A 1 0))) (FP.Core.quantum FP.Core.b64 A 1 0) := by
    unfold FP.Core.roundRatio FP.Core.roundAt
    rw [if_neg (by omega)]
  rw [e0]
  generalize FP.Core.nearest _ _ = c at hc
  generalize FP.Core.quantum FP.Core.b64 A 1 0 = q
  unfold FP.Core.settle FP.Core.bound
  split <;> split
  · exact Or.inr ⟨_, _, hc, rfl⟩
  · exact Or.inl rfl
  · exact Or.inr ⟨_, _, FP.Core.tails_pos _, rfl⟩
  · exact Or.inl rfl
theorem own_ord (s : Bool) (d : FP.Core.Datum) (h : d = .inf s ∨ ∃ c q, 0 < c ∧ d = .fin s c q) : FP.Core.order d (FP.Core.val64 FP.dconst0) = some (if s then .lt else .gt) := by
  have z : FP.Core.val64 FP.dconst0 = .fin false 0 FP.Core.b64.qmin := by decide +kernel
  rw [z]
  rcases h with rfl | ⟨c, q, hc, rfl⟩
  · cases s <;> decide
  · have hp : 0 < FP.Core.inUnits c q (min q FP.Core.b64.qmin) := Nat.mul_pos hc (Nat.two_pow_pos _)
    have e1 : FP.Core.inUnits 0 FP.Core.b64.qmin (min q FP.Core.b64.qmin) = 0 := Nat.zero_mul _
    show some (compare (FP.Core.signed s (FP.Core.inUnits c q (min q FP.Core.b64.qmin))) (FP.Core.signed false (FP.Core.inUnits 0 FP.Core.b64.qmin (min q FP.Core.b64.qmin)))) = _
    rw [e1]
    generalize FP.Core.inUnits c q (min q FP.Core.b64.qmin) = k at hp
    cases s
    · show some (compare (k : Int) 0) = some .gt
      exact congrArg some (Int.compare_eq_gt.mpr (by omega))
    · show some (compare (-(k : Int)) 0) = some .lt
      exact congrArg some (Int.compare_eq_lt.mpr (by omega))
theorem own_sgn (a : Int64) (h : ¬ a.toInt = 0) : cmpValue (FP.dcmp (FP.l2d a) FP.dconst0) .l = (if a.toInt < 0 then -1 else 1) ∧ cmpValue (FP.dcmp (FP.dneg (FP.l2d a)) FP.dconst0) .l = (if a.toInt < 0 then 1 else -1) := by
  have e1 : FP.Core.val64 (FP.l2d a) = FP.Core.roundRatio FP.Core.b64 (decide (a.toInt < 0)) a.toInt.natAbs 1 0 := FP.Core.val64_l2d a
  have e2 := FP.val64_dneg (FP.l2d a)
  have q := own_pos (A := a.toInt.natAbs) (by omega) (decide (a.toInt < 0))
  have q' : FP.Core.negate (FP.Core.val64 (FP.l2d a)) = .inf (!decide (a.toInt < 0)) ∨ ∃ c q, 0 < c ∧ FP.Core.negate (FP.Core.val64 (FP.l2d a)) = .fin (!decide (a.toInt < 0)) c q := by
    rw [e1]
    rcases q with q | ⟨c, k, hc, q⟩
    · rw [q]; exact Or.inl rfl
    · rw [q]; exact Or.inr ⟨c, k, hc, rfl⟩
  have o1 : FP.dcmp (FP.l2d a) FP.dconst0 = _ := own_ord _ _ (e1 ▸ q)
  have o2 : FP.dcmp (FP.dneg (FP.l2d a)) FP.dconst0 = _ := own_ord _ _ (e2 ▸ q')
  rw [o1, o2]
  by_cases n : a.toInt < 0
  · simp only [n, decide_true, if_true, Bool.not_true, Bool.false_eq_true, if_false]; exact ⟨rfl, rfl⟩
  · simp only [n, decide_false, if_false, Bool.not_false, if_true, Bool.false_eq_true]; exact ⟨rfl, rfl⟩
theorem own_gt {a : Int64} (h : (0 : Int64) < a) : cmpValue (FP.dcmp (FP.l2d a) FP.dconst0) .l = (1 : Int32) ∧ cmpValue (FP.dcmp (FP.dneg (FP.l2d a)) FP.dconst0) .l = (-1 : Int32) := by
  have h1 : (0 : Int) < a.toInt := Int64.lt_iff_toInt_lt.mp h
  have q := own_sgn a (by omega)
  rw [if_neg (by omega), if_neg (by omega)] at q; exact q
theorem own_lt {a : Int64} (h : a < (0 : Int64)) : cmpValue (FP.dcmp (FP.l2d a) FP.dconst0) .l = (-1 : Int32) ∧ cmpValue (FP.dcmp (FP.dneg (FP.l2d a)) FP.dconst0) .l = (1 : Int32) := by
  have h1 : a.toInt < (0 : Int) := Int64.lt_iff_toInt_lt.mp h
  have q := own_sgn a (by omega)
  rw [if_pos (by omega), if_pos (by omega)] at q; exact q
theorem own_eq {a : Int64} (h : ¬ (0 : Int64) < a) (h' : ¬ a < (0 : Int64)) : cmpValue (FP.dcmp (FP.l2d a) FP.dconst0) .l = (0 : Int32) ∧ cmpValue (FP.dcmp (FP.dneg (FP.l2d a)) FP.dconst0) .l = (0 : Int32) := by
  rw [Int64.lt_iff_toInt_lt] at h h'
  have h0 : a = 0 := Int64.toInt_inj.mp (by have : (0 : Int64).toInt = 0 := rfl; omega)
  subst h0; exact ⟨by decide +kernel, by decide +kernel⟩
def own_sel (q z : Int32) (sN sI sD sU sV : Addr) : Addr := if q = 0 then sN else if 0 < q then (if z = 0 then sI else sU) else (if z = 0 then sD else sV)
theorem wd_0 {a0 : Array Value} {Z : State} (hw : ∀ d ∈ tables_1, d.before a0 Z = true) : (Jvm.Cond.methodLink "com/example/whole_session/wholesession/ChangeOfPinLaw" (25 : Nat) ({ cls := "com/example/whole_session/wholesession/Change", name := "of", desc := "(DZ)Lcom/example/whole_session/wholesession/Change;" } : Jvm.MethodName)).before a0 Z = true := hw _ (List.mem_of_getElem? (i := 0) rfl)
theorem wd_1 {a0 : Array Value} {Z : State} (hw : ∀ d ∈ tables_1, d.before a0 Z = true) : (Jvm.Cond.static ({ cls := "com/example/whole_session/wholesession/Change", name := "of", desc := "(DZ)Lcom/example/whole_session/wholesession/Change;" } : Jvm.MethodName)).before a0 Z = true := hw _ (List.mem_of_getElem? (i := 1) rfl)
theorem wd_2 {a0 : Array Value} {Z : State} (hw : ∀ d ∈ tables_1, d.before a0 Z = true) : (Jvm.Cond.initialized "com/example/whole_session/wholesession/Change").before a0 Z = true := hw _ (List.mem_of_getElem? (i := 2) rfl)
theorem wd_3 {a0 : Array Value} {Z : State} (hw : ∀ d ∈ tables_1, d.before a0 Z = true) : (Jvm.Cond.code ({ cls := "com/example/whole_session/wholesession/Change", name := "of", desc := "(DZ)Lcom/example/whole_session/wholesession/Change;" } : Jvm.MethodName) prog_1_method_4_code (3 : Nat) (Option.some (Jvm.ClassFile.FieldType.object "com/example/whole_session/wholesession/Change"))).before a0 Z = true := hw _ (List.mem_of_getElem? (i := 3) rfl)
theorem wd_4 {a0 : Array Value} {Z : State} (hw : ∀ d ∈ tables_1, d.before a0 Z = true) : (Jvm.Cond.fieldLink "com/example/whole_session/wholesession/Change" (10 : Nat) "com/example/whole_session/wholesession/Change" "INCREASE" "Lcom/example/whole_session/wholesession/Change;").before a0 Z = true := hw _ (List.mem_of_getElem? (i := 4) rfl)
theorem wd_5 {a0 : Array Value} {Z : State} (hw : ∀ d ∈ tables_1, d.before a0 Z = true) : (Jvm.Cond.laysStatic "com/example/whole_session/wholesession/Change" "INCREASE" "Lcom/example/whole_session/wholesession/Change;").before a0 Z = true := hw _ (List.mem_of_getElem? (i := 5) rfl)
theorem wd_6 {a0 : Array Value} {Z : State} (hw : ∀ d ∈ tables_1, d.before a0 Z = true) : (Jvm.Cond.fieldLink "com/example/whole_session/wholesession/Change" (13 : Nat) "com/example/whole_session/wholesession/Change" "DECREASE" "Lcom/example/whole_session/wholesession/Change;").before a0 Z = true := hw _ (List.mem_of_getElem? (i := 6) rfl)
theorem wd_7 {a0 : Array Value} {Z : State} (hw : ∀ d ∈ tables_1, d.before a0 Z = true) : (Jvm.Cond.laysStatic "com/example/whole_session/wholesession/Change" "DECREASE" "Lcom/example/whole_session/wholesession/Change;").before a0 Z = true := hw _ (List.mem_of_getElem? (i := 7) rfl)
theorem wd_8 {a0 : Array Value} {Z : State} (hw : ∀ d ∈ tables_1, d.before a0 Z = true) : (Jvm.Cond.methodLink "com/example/whole_session/wholesession/ChangeOfPinLaw" (29 : Nat) ({ cls := "com/example/whole_session/wholesession/ChangeOfPinLaw", name := "expected", desc := "(IZ)Lcom/example/whole_session/wholesession/Change;" } : Jvm.MethodName)).before a0 Z = true := hw _ (List.mem_of_getElem? (i := 8) rfl)
theorem wd_9 {a0 : Array Value} {Z : State} (hw : ∀ d ∈ tables_1, d.before a0 Z = true) : (Jvm.Cond.static ({ cls := "com/example/whole_session/wholesession/ChangeOfPinLaw", name := "expected", desc := "(IZ)Lcom/example/whole_session/wholesession/Change;" } : Jvm.MethodName)).before a0 Z = true := hw _ (List.mem_of_getElem? (i := 9) rfl)
theorem wd_10 {a0 : Array Value} {Z : State} (hw : ∀ d ∈ tables_1, d.before a0 Z = true) : (Jvm.Cond.initialized "com/example/whole_session/wholesession/ChangeOfPinLaw").before a0 Z = true := hw _ (List.mem_of_getElem? (i := 10) rfl)
theorem wd_11 {a0 : Array Value} {Z : State} (hw : ∀ d ∈ tables_1, d.before a0 Z = true) : (Jvm.Cond.code ({ cls := "com/example/whole_session/wholesession/ChangeOfPinLaw", name := "expected", desc := "(IZ)Lcom/example/whole_session/wholesession/Change;" } : Jvm.MethodName) method_2_code (2 : Nat) (Option.some (Jvm.ClassFile.FieldType.object "com/example/whole_session/wholesession/Change"))).before a0 Z = true := hw _ (List.mem_of_getElem? (i := 11) rfl)
theorem wd_12 {a0 : Array Value} {Z : State} (hw : ∀ d ∈ tables_1, d.before a0 Z = true) : (Jvm.Cond.fieldLink "com/example/whole_session/wholesession/ChangeOfPinLaw" (16 : Nat) "com/example/whole_session/wholesession/Change" "INCREASE" "Lcom/example/whole_session/wholesession/Change;").before a0 Z = true := hw _ (List.mem_of_getElem? (i := 12) rfl)
theorem wd_13 {a0 : Array Value} {Z : State} (hw : ∀ d ∈ tables_1, d.before a0 Z = true) : (Jvm.Cond.fieldLink "com/example/whole_session/wholesession/ChangeOfPinLaw" (22 : Nat) "com/example/whole_session/wholesession/Change" "DECREASE" "Lcom/example/whole_session/wholesession/Change;").before a0 Z = true := hw _ (List.mem_of_getElem? (i := 13) rfl)
theorem wd_14 {a0 : Array Value} {Z : State} (hw : ∀ d ∈ tables_1, d.before a0 Z = true) : (Jvm.Cond.fieldLink "com/example/whole_session/wholesession/Change" (3 : Nat) "com/example/whole_session/wholesession/Change" "SIGNIFICANT_INCREASE" "Lcom/example/whole_session/wholesession/Change;").before a0 Z = true := hw _ (List.mem_of_getElem? (i := 14) rfl)
theorem wd_15 {a0 : Array Value} {Z : State} (hw : ∀ d ∈ tables_1, d.before a0 Z = true) : (Jvm.Cond.laysStatic "com/example/whole_session/wholesession/Change" "SIGNIFICANT_INCREASE" "Lcom/example/whole_session/wholesession/Change;").before a0 Z = true := hw _ (List.mem_of_getElem? (i := 15) rfl)
theorem wd_16 {a0 : Array Value} {Z : State} (hw : ∀ d ∈ tables_1, d.before a0 Z = true) : (Jvm.Cond.fieldLink "com/example/whole_session/wholesession/Change" (7 : Nat) "com/example/whole_session/wholesession/Change" "SIGNIFICANT_DECREASE" "Lcom/example/whole_session/wholesession/Change;").before a0 Z = true := hw _ (List.mem_of_getElem? (i := 16) rfl)
theorem wd_17 {a0 : Array Value} {Z : State} (hw : ∀ d ∈ tables_1, d.before a0 Z = true) : (Jvm.Cond.laysStatic "com/example/whole_session/wholesession/Change" "SIGNIFICANT_DECREASE" "Lcom/example/whole_session/wholesession/Change;").before a0 Z = true := hw _ (List.mem_of_getElem? (i := 17) rfl)
theorem wd_18 {a0 : Array Value} {Z : State} (hw : ∀ d ∈ tables_1, d.before a0 Z = true) : (Jvm.Cond.fieldLink "com/example/whole_session/wholesession/ChangeOfPinLaw" (13 : Nat) "com/example/whole_session/wholesession/Change" "SIGNIFICANT_INCREASE" "Lcom/example/whole_session/wholesession/Change;").before a0 Z = true := hw _ (List.mem_of_getElem? (i := 18) rfl)
theorem wd_19 {a0 : Array Value} {Z : State} (hw : ∀ d ∈ tables_1, d.before a0 Z = true) : (Jvm.Cond.fieldLink "com/example/whole_session/wholesession/ChangeOfPinLaw" (19 : Nat) "com/example/whole_session/wholesession/Change" "SIGNIFICANT_DECREASE" "Lcom/example/whole_session/wholesession/Change;").before a0 Z = true := hw _ (List.mem_of_getElem? (i := 19) rfl)
theorem wd_20 {a0 : Array Value} {Z : State} (hw : ∀ d ∈ tables_1, d.before a0 Z = true) : (Jvm.Cond.fieldLink "com/example/whole_session/wholesession/Change" (16 : Nat) "com/example/whole_session/wholesession/Change" "NONE" "Lcom/example/whole_session/wholesession/Change;").before a0 Z = true := hw _ (List.mem_of_getElem? (i := 20) rfl)
theorem wd_21 {a0 : Array Value} {Z : State} (hw : ∀ d ∈ tables_1, d.before a0 Z = true) : (Jvm.Cond.laysStatic "com/example/whole_session/wholesession/Change" "NONE" "Lcom/example/whole_session/wholesession/Change;").before a0 Z = true := hw _ (List.mem_of_getElem? (i := 21) rfl)
theorem wd_22 {a0 : Array Value} {Z : State} (hw : ∀ d ∈ tables_1, d.before a0 Z = true) : (Jvm.Cond.fieldLink "com/example/whole_session/wholesession/ChangeOfPinLaw" (7 : Nat) "com/example/whole_session/wholesession/Change" "NONE" "Lcom/example/whole_session/wholesession/Change;").before a0 Z = true := hw _ (List.mem_of_getElem? (i := 22) rfl)
theorem d_0 : Dc code 0 (.iload_n 2) 1 1 := ⟨at_0, rfl⟩
theorem d_1 : Dc code 1 (.iconst 1) 1 2 := ⟨at_1, rfl⟩
theorem d_2 : Dc code 2 (.iand) 1 3 := ⟨at_2, rfl⟩
theorem d_3 : Bc code 3 (.ifCond .eq) 10 6 := ⟨7, at_3, by decide, by decide, rfl⟩
theorem d_6 : Dc code 6 (.iconst 1) 1 7 := ⟨at_6, rfl⟩
theorem d_7 : Bc code 7 (.goto) 11 10 := ⟨4, at_7, by decide, by decide, rfl⟩
theorem d_10 : Dc code 10 (.iconst 0) 1 11 := ⟨at_10, rfl⟩
theorem d_11 : Dc code 11 (.istore_n 3) 1 12 := ⟨at_11, rfl⟩
theorem d_12 : Dc code 12 (.lload_n 0) 1 13 := ⟨at_12, rfl⟩
theorem d_13 : Dc code 13 (.l2d) 1 14 := ⟨at_13, rfl⟩
theorem d_14 : Dc code 14 (.dstore 4) 2 16 := ⟨at_14, rfl⟩
theorem d_16 : Dc code 16 (.dload 4) 2 18 := ⟨at_16, rfl⟩
theorem d_18 : Dc code 18 (.dneg) 1 19 := ⟨at_18, rfl⟩
theorem d_19 : Dc code 19 (.dstore 6) 2 21 := ⟨at_19, rfl⟩
theorem d_21 : Dc code 21 (.iconst 0) 1 22 := ⟨at_21, rfl⟩
theorem d_22 : Dc code 22 (.istore 8) 2 24 := ⟨at_22, rfl⟩
theorem d_24 : Dc code 24 (.lload_n 0) 1 25 := ⟨at_24, rfl⟩
theorem d_25 : Dc code 25 (.lconst 0) 1 26 := ⟨at_25, rfl⟩
theorem d_26 : Dc code 26 (.lcmp) 1 27 := ⟨at_26, rfl⟩
theorem d_27 : Bc code 27 (.ifCond .le) 36 30 := ⟨9, at_27, by decide, by decide, rfl⟩
theorem d_30 : Dc code 30 (.iconst 1) 1 31 := ⟨at_30, rfl⟩
theorem d_31 : Dc code 31 (.istore 8) 2 33 := ⟨at_31, rfl⟩
theorem d_33 : Bc code 33 (.goto) 45 36 := ⟨12, at_33, by decide, by decide, rfl⟩
theorem d_36 : Dc code 36 (.lload_n 0) 1 37 := ⟨at_36, rfl⟩
theorem d_37 : Dc code 37 (.lconst 0) 1 38 := ⟨at_37, rfl⟩
theorem d_38 : Dc code 38 (.lcmp) 1 39 := ⟨at_38, rfl⟩
theorem d_39 : Bc code 39 (.ifCond .ge) 45 42 := ⟨6, at_39, by decide, by decide, rfl⟩
theorem d_42 : Dc code 42 (.iconst (-1)) 1 43 := ⟨at_42, rfl⟩
theorem d_43 : Dc code 43 (.istore 8) 2 45 := ⟨at_43, rfl⟩
theorem d_45 : Dc code 45 (.dload 4) 2 47 := ⟨at_45, rfl⟩
theorem d_47 : Dc code 47 (.iload_n 3) 1 48 := ⟨at_47, rfl⟩
theorem d_48 : Dc code 48 (.invokestatic 25) 3 51 := ⟨at_48, rfl⟩
theorem d_51 : Dc code 51 (.astore 9) 2 53 := ⟨at_51, rfl⟩
theorem d_53 : Dc code 53 (.dload 6) 2 55 := ⟨at_53, rfl⟩
theorem d_55 : Dc code 55 (.iload_n 3) 1 56 := ⟨at_55, rfl⟩
theorem d_56 : Dc code 56 (.invokestatic 25) 3 59 := ⟨at_56, rfl⟩
theorem d_59 : Dc code 59 (.astore 10) 2 61 := ⟨at_59, rfl⟩
theorem d_61 : Dc code 61 (.aload 9) 2 63 := ⟨at_61, rfl⟩
theorem d_63 : Dc code 63 (.iload 8) 2 65 := ⟨at_63, rfl⟩
theorem d_65 : Dc code 65 (.iload_n 3) 1 66 := ⟨at_65, rfl⟩
theorem d_66 : Dc code 66 (.invokestatic 29) 3 69 := ⟨at_66, rfl⟩
theorem d_69 : Bc code 69 (.if_acmp .ne) 88 72 := ⟨19, at_69, by decide, by decide, rfl⟩
theorem d_72 : Dc code 72 (.aload 10) 2 74 := ⟨at_72, rfl⟩
theorem d_74 : Dc code 74 (.iload 8) 2 76 := ⟨at_74, rfl⟩
theorem d_76 : Dc code 76 (.ineg) 1 77 := ⟨at_76, rfl⟩
theorem d_77 : Dc code 77 (.iload_n 3) 1 78 := ⟨at_77, rfl⟩
theorem d_78 : Dc code 78 (.invokestatic 29) 3 81 := ⟨at_78, rfl⟩
theorem d_81 : Bc code 81 (.if_acmp .ne) 88 84 := ⟨7, at_81, by decide, by decide, rfl⟩
theorem d_84 : Dc code 84 (.iconst 1) 1 85 := ⟨at_84, rfl⟩
theorem d_85 : Bc code 85 (.goto) 89 88 := ⟨4, at_85, by decide, by decide, rfl⟩
theorem d_89 : Dc code 89 (.ireturn) 1 90 := ⟨at_89, rfl⟩
theorem d2_0 : Dc method_2_code 0 (.iload_n 0) 1 1 := ⟨by decide +kernel, rfl⟩
theorem d2_1 : Bc method_2_code 1 (.ifCond .ne) 8 4 := ⟨7, by decide +kernel, by decide, by decide, rfl⟩
theorem d2_4 : Dc method_2_code 4 (.getstatic 7) 3 7 := ⟨by decide +kernel, rfl⟩
theorem d2_7 : Dc method_2_code 7 (.areturn) 1 8 := ⟨by decide +kernel, rfl⟩
theorem d2_8 : Dc method_2_code 8 (.iload_n 0) 1 9 := ⟨by decide +kernel, rfl⟩
theorem d2_9 : Bc method_2_code 9 (.ifCond .le) 24 12 := ⟨15, by decide +kernel, by decide, by decide, rfl⟩
theorem d2_12 : Dc method_2_code 12 (.iload_n 1) 1 13 := ⟨by decide +kernel, rfl⟩
theorem d2_13 : Bc method_2_code 13 (.ifCond .eq) 20 16 := ⟨7, by decide +kernel, by decide, by decide, rfl⟩
theorem d2_16 : Dc method_2_code 16 (.getstatic 13) 3 19 := ⟨by decide +kernel, rfl⟩
theorem d2_19 : Dc method_2_code 19 (.areturn) 1 20 := ⟨by decide +kernel, rfl⟩
theorem d2_20 : Dc method_2_code 20 (.getstatic 16) 3 23 := ⟨by decide +kernel, rfl⟩
theorem d2_23 : Dc method_2_code 23 (.areturn) 1 24 := ⟨by decide +kernel, rfl⟩
theorem d2_24 : Dc method_2_code 24 (.iload_n 1) 1 25 := ⟨by decide +kernel, rfl⟩
theorem d2_25 : Bc method_2_code 25 (.ifCond .eq) 32 28 := ⟨7, by decide +kernel, by decide, by decide, rfl⟩
theorem d2_28 : Dc method_2_code 28 (.getstatic 19) 3 31 := ⟨by decide +kernel, rfl⟩
theorem d2_31 : Dc method_2_code 31 (.areturn) 1 32 := ⟨by decide +kernel, rfl⟩
theorem d2_32 : Dc method_2_code 32 (.getstatic 22) 3 35 := ⟨by decide +kernel, rfl⟩
theorem d2_35 : Dc method_2_code 35 (.areturn) 1 36 := ⟨by decide +kernel, rfl⟩
theorem dprog_1_4_0 : Dc prog_1_method_4_code 0 (.dload_n 0) 1 1 := ⟨by decide +kernel, rfl⟩
theorem dprog_1_4_1 : Dc prog_1_method_4_code 1 (.dconst 0) 1 2 := ⟨by decide +kernel, rfl⟩
theorem dprog_1_4_2 : Dc prog_1_method_4_code 2 (.dcmp .l) 1 3 := ⟨by decide +kernel, rfl⟩
theorem dprog_1_4_3 : Bc prog_1_method_4_code 3 (.ifCond .ne) 10 6 := ⟨7, by decide +kernel, by decide, by decide, rfl⟩
theorem dprog_1_4_6 : Dc prog_1_method_4_code 6 (.getstatic 16) 3 9 := ⟨by decide +kernel, rfl⟩
theorem dprog_1_4_9 : Dc prog_1_method_4_code 9 (.areturn) 1 10 := ⟨by decide +kernel, rfl⟩
theorem dprog_1_4_10 : Dc prog_1_method_4_code 10 (.dload_n 0) 1 11 := ⟨by decide +kernel, rfl⟩
theorem dprog_1_4_11 : Dc prog_1_method_4_code 11 (.dconst 0) 1 12 := ⟨by decide +kernel, rfl⟩
theorem dprog_1_4_12 : Dc prog_1_method_4_code 12 (.dcmp .l) 1 13 := ⟨by decide +kernel, rfl⟩
theorem dprog_1_4_13 : Bc prog_1_method_4_code 13 (.ifCond .le) 30 16 := ⟨17, by decide +kernel, by decide, by decide, rfl⟩
theorem dprog_1_4_16 : Dc prog_1_method_4_code 16 (.iload_n 2) 1 17 := ⟨by decide +kernel, rfl⟩
theorem dprog_1_4_17 : Bc prog_1_method_4_code 17 (.ifCond .eq) 26 20 := ⟨9, by decide +kernel, by decide, by decide, rfl⟩
theorem dprog_1_4_20 : Dc prog_1_method_4_code 20 (.getstatic 3) 3 23 := ⟨by decide +kernel, rfl⟩
theorem dprog_1_4_23 : Bc prog_1_method_4_code 23 (.goto) 29 26 := ⟨6, by decide +kernel, by decide, by decide, rfl⟩
theorem dprog_1_4_26 : Dc prog_1_method_4_code 26 (.getstatic 10) 3 29 := ⟨by decide +kernel, rfl⟩
theorem dprog_1_4_29 : Dc prog_1_method_4_code 29 (.areturn) 1 30 := ⟨by decide +kernel, rfl⟩
theorem dprog_1_4_30 : Dc prog_1_method_4_code 30 (.iload_n 2) 1 31 := ⟨by decide +kernel, rfl⟩
theorem dprog_1_4_31 : Bc prog_1_method_4_code 31 (.ifCond .eq) 40 34 := ⟨9, by decide +kernel, by decide, by decide, rfl⟩
theorem dprog_1_4_34 : Dc prog_1_method_4_code 34 (.getstatic 7) 3 37 := ⟨by decide +kernel, rfl⟩
theorem dprog_1_4_37 : Bc prog_1_method_4_code 37 (.goto) 43 40 := ⟨6, by decide +kernel, by decide, by decide, rfl⟩
theorem dprog_1_4_40 : Dc prog_1_method_4_code 40 (.getstatic 13) 3 43 := ⟨by decide +kernel, rfl⟩
theorem dprog_1_4_43 : Dc prog_1_method_4_code 43 (.areturn) 1 44 := ⟨by decide +kernel, rfl⟩
theorem pd_0 : parseMethodDescriptor "(DZ)Lcom/example/whole_session/wholesession/Change;" = some ⟨[.double, .boolean], some (.object "com/example/whole_session/wholesession/Change")⟩ := by decide +kernel
theorem pd_1 : parseMethodDescriptor "(IZ)Lcom/example/whole_session/wholesession/Change;" = some ⟨[.int, .boolean], some (.object "com/example/whole_session/wholesession/Change")⟩ := by decide +kernel
theorem pn_0 : plainName "com/example/whole_session/wholesession/Change" = true := by first | (simp [plainName, overriddenIn]; done) | decide +kernel
theorem pn_1 : plainName "com/example/whole_session/wholesession/ChangeOfPinLaw" = true := by first | (simp [plainName, overriddenIn]; done) | decide +kernel
set_option maxRecDepth 65536 in
set_option maxHeartbeats 40000000 in
theorem m_of {l : Launch} {Z : State} {a0 : Array Value} {n0 : Nat} (hw : ∀ d ∈ tables_1, d.before a0 Z = true) {h0 : Heap} {sN sI sD sU sV : Addr} (d : UInt64) (z : Int32) (S_sN : Sta Z Z.heap "com/example/whole_session/wholesession/Change" "NONE" "Lcom/example/whole_session/wholesession/Change;" (.ref sN)) (S_sI : Sta Z Z.heap "com/example/whole_session/wholesession/Change" "INCREASE" "Lcom/example/whole_session/wholesession/Change;" (.ref sI)) (S_sD : Sta Z Z.heap "com/example/whole_session/wholesession/Change" "DECREASE" "Lcom/example/whole_session/wholesession/Change;" (.ref sD)) (S_sU : Sta Z Z.heap "com/example/whole_session/wholesession/Change" "SIGNIFICANT_INCREASE" "Lcom/example/whole_session/wholesession/Change;" (.ref sU)) (S_sV : Sta Z Z.heap "com/example/whole_session/wholesession/Change" "SIGNIFICANT_DECREASE" "Lcom/example/whole_session/wholesession/Change;" (.ref sV)) :
    Does l Z n0 ⟨"com/example/whole_session/wholesession/Change", "of", "(DZ)Lcom/example/whole_session/wholesession/Change;"⟩ prog_1_method_4_code 3 (some (.object "com/example/whole_session/wholesession/Change")) [] { frames := 0, cells := 0, slots := 0, locals := 0 } #[(.double d), (.int z)] h0 (fun v h => v = some (.ref (own_sel (cmpValue (FP.dcmp d FP.dconst0) .l) z sN sI sD sU sV)) ∧ h0 = h) := by
  refine Does.start (plainFor_of_name pn_0) ?_
  intro p e s m below meth c T X
  replace X : Sd Z n0 0 prog_1_method_4_code 3 "com/example/whole_session/wholesession/Change" "of" (some (.object "com/example/whole_session/wholesession/Change")) h0 p l e { frames := 0, cells := 0, slots := 0, locals := 0 } s m #[(.double d), (.int z)] below meth c T [] 0 0 := X
  refine Wp.cast (g' := mkF m 0 #[.val (.double d), .second, .val (.int z)] []) (by first | rfl | (simp [entryFrame, mkF, argsToLocals, Value.category, maxLocals]; done)) ?_
  refine w_dloadN X dprog_1_4_0 rfl ?_
  refine w_dconst0 X dprog_1_4_1 ?_
  refine w_dcmpl X dprog_1_4_2 ?_
  refine w_ifne X dprog_1_4_3 (fun (hc3 : ¬ (cmpValue (FP.dcmp d FP.dconst0) .l) = (0 : Int32)) => ?_) (fun (hc3 : (cmpValue (FP.dcmp d FP.dconst0) .l) = (0 : Int32)) => ?_)
  · refine w_dloadN X dprog_1_4_10 rfl ?_
    refine w_dconst0 X dprog_1_4_11 ?_
    refine w_dcmpl X dprog_1_4_12 ?_
    refine w_ifle X dprog_1_4_13 (fun (hc13 : ¬ (0 : Int32) < (cmpValue (FP.dcmp d FP.dconst0) .l)) => ?_) (fun (hc13 : (0 : Int32) < (cmpValue (FP.dcmp d FP.dconst0) .l)) => ?_)
    · refine w_iloadN X dprog_1_4_30 rfl ?_
      refine w_ifeq X dprog_1_4_31 (fun (hc31 : z = (0 : Int32)) => ?_) (fun (hc31 : ¬ z = (0 : Int32)) => ?_)
      · refine w_getS X dprog_1_4_40 (host := "") (Or.inl (wd_6 hw)) Via.refl (S_sD.ext X.old.2) (fun T X => ?_)
        exact w_retR X rfl (rfl) rfl dprog_1_4_43 ⟨congrArg (fun a => some (Value.ref a)) (by unfold own_sel; simp only [*, if_true, if_false, Int32.reduceLT]), rfl⟩ (by decide) (by decide)
      · refine w_getS X dprog_1_4_34 (host := "") (Or.inl (wd_16 hw)) Via.refl (S_sV.ext X.old.2) (fun T X => ?_)
        refine w_goto X dprog_1_4_37 ?_
        exact w_retR X rfl (rfl) rfl dprog_1_4_43 ⟨congrArg (fun a => some (Value.ref a)) (by unfold own_sel; simp only [*, if_true, if_false, Int32.reduceLT]), rfl⟩ (by decide) (by decide)
    · refine w_iloadN X dprog_1_4_16 rfl ?_
      refine w_ifeq X dprog_1_4_17 (fun (hc17 : z = (0 : Int32)) => ?_) (fun (hc17 : ¬ z = (0 : Int32)) => ?_)
      · refine w_getS X dprog_1_4_26 (host := "") (Or.inl (wd_4 hw)) Via.refl (S_sI.ext X.old.2) (fun T X => ?_)
        exact w_retR X rfl (rfl) rfl dprog_1_4_29 ⟨congrArg (fun a => some (Value.ref a)) (by unfold own_sel; simp only [*, if_true, if_false, Int32.reduceLT]), rfl⟩ (by decide) (by decide)
      · refine w_getS X dprog_1_4_20 (host := "") (Or.inl (wd_14 hw)) Via.refl (S_sU.ext X.old.2) (fun T X => ?_)
        refine w_goto X dprog_1_4_23 ?_
        exact w_retR X rfl (rfl) rfl dprog_1_4_29 ⟨congrArg (fun a => some (Value.ref a)) (by unfold own_sel; simp only [*, if_true, if_false, Int32.reduceLT]), rfl⟩ (by decide) (by decide)
  · refine w_getS X dprog_1_4_6 (host := "") (Or.inl (wd_20 hw)) Via.refl (S_sN.ext X.old.2) (fun T X => ?_)
    exact w_retR X rfl (rfl) rfl dprog_1_4_9 ⟨congrArg (fun a => some (Value.ref a)) (by unfold own_sel; simp only [*, if_true, if_false, Int32.reduceLT]), rfl⟩ (by decide) (by decide)
set_option maxRecDepth 65536 in
set_option maxHeartbeats 40000000 in
theorem m_ex {l : Launch} {Z : State} {a0 : Array Value} {n0 : Nat} (hw : ∀ d ∈ tables_1, d.before a0 Z = true) {h0 : Heap} {sN sI sD sU sV : Addr} (q z : Int32) (S_sN : Sta Z Z.heap "com/example/whole_session/wholesession/Change" "NONE" "Lcom/example/whole_session/wholesession/Change;" (.ref sN)) (S_sI : Sta Z Z.heap "com/example/whole_session/wholesession/Change" "INCREASE" "Lcom/example/whole_session/wholesession/Change;" (.ref sI)) (S_sD : Sta Z Z.heap "com/example/whole_session/wholesession/Change" "DECREASE" "Lcom/example/whole_session/wholesession/Change;" (.ref sD)) (S_sU : Sta Z Z.heap "com/example/whole_session/wholesession/Change" "SIGNIFICANT_INCREASE" "Lcom/example/whole_session/wholesession/Change;" (.ref sU)) (S_sV : Sta Z Z.heap "com/example/whole_session/wholesession/Change" "SIGNIFICANT_DECREASE" "Lcom/example/whole_session/wholesession/Change;" (.ref sV)) :
    Does l Z n0 ⟨"com/example/whole_session/wholesession/ChangeOfPinLaw", "expected", "(IZ)Lcom/example/whole_session/wholesession/Change;"⟩ method_2_code 2 (some (.object "com/example/whole_session/wholesession/Change")) [] { frames := 0, cells := 0, slots := 0, locals := 0 } #[(.int q), (.int z)] h0 (fun v h => v = some (.ref (own_sel q z sN sI sD sU sV)) ∧ h0 = h) := by
  refine Does.start (plainFor_of_name pn_1) ?_
  intro p e s m below meth c T X
  replace X : Sd Z n0 0 method_2_code 2 "com/example/whole_session/wholesession/ChangeOfPinLaw" "expected" (some (.object "com/example/whole_session/wholesession/Change")) h0 p l e { frames := 0, cells := 0, slots := 0, locals := 0 } s m #[(.int q), (.int z)] below meth c T [] 0 0 := X
  refine Wp.cast (g' := mkF m 0 #[.val (.int q), .val (.int z)] []) (by first | rfl | (simp [entryFrame, mkF, argsToLocals, Value.category, maxLocals]; done)) ?_
  refine w_iloadN X d2_0 rfl ?_
  refine w_ifne X d2_1 (fun (hc1 : ¬ q = (0 : Int32)) => ?_) (fun (hc1 : q = (0 : Int32)) => ?_)
  · refine w_iloadN X d2_8 rfl ?_
    refine w_ifle X d2_9 (fun (hc9 : ¬ (0 : Int32) < q) => ?_) (fun (hc9 : (0 : Int32) < q) => ?_)
    · refine w_iloadN X d2_24 rfl ?_
      refine w_ifeq X d2_25 (fun (hc25 : z = (0 : Int32)) => ?_) (fun (hc25 : ¬ z = (0 : Int32)) => ?_)
      · refine w_getS X d2_32 (host := "") (Or.inl (wd_13 hw)) Via.refl (S_sD.ext X.old.2) (fun T X => ?_)
        exact w_retR X rfl (rfl) rfl d2_35 ⟨congrArg (fun a => some (Value.ref a)) (by unfold own_sel; simp only [*, if_true, if_false, Int32.reduceLT]), rfl⟩ (by decide) (by decide)
      · refine w_getS X d2_28 (host := "") (Or.inl (wd_19 hw)) Via.refl (S_sV.ext X.old.2) (fun T X => ?_)
        exact w_retR X rfl (rfl) rfl d2_31 ⟨congrArg (fun a => some (Value.ref a)) (by unfold own_sel; simp only [*, if_true, if_false, Int32.reduceLT]), rfl⟩ (by decide) (by decide)
    · refine w_iloadN X d2_12 rfl ?_
      refine w_ifeq X d2_13 (fun (hc13 : z = (0 : Int32)) => ?_) (fun (hc13 : ¬ z = (0 : Int32)) => ?_)
      · refine w_getS X d2_20 (host := "") (Or.inl (wd_12 hw)) Via.refl (S_sI.ext X.old.2) (fun T X => ?_)
        exact w_retR X rfl (rfl) rfl d2_23 ⟨congrArg (fun a => some (Value.ref a)) (by unfold own_sel; simp only [*, if_true, if_false, Int32.reduceLT]), rfl⟩ (by decide) (by decide)
      · refine w_getS X d2_16 (host := "") (Or.inl (wd_18 hw)) Via.refl (S_sU.ext X.old.2) (fun T X => ?_)
        exact w_retR X rfl (rfl) rfl d2_19 ⟨congrArg (fun a => some (Value.ref a)) (by unfold own_sel; simp only [*, if_true, if_false, Int32.reduceLT]), rfl⟩ (by decide) (by decide)
  · refine w_getS X d2_4 (host := "") (Or.inl (wd_22 hw)) Via.refl (S_sN.ext X.old.2) (fun T X => ?_)
    exact w_retR X rfl (rfl) rfl d2_7 ⟨congrArg (fun a => some (Value.ref a)) (by unfold own_sel; simp only [*, if_true, if_false, Int32.reduceLT]), rfl⟩ (by decide) (by decide)
set_option maxRecDepth 65536 in
set_option maxHeartbeats 40000000 in
theorem m_law {l : Launch} {Z : State} {a0 : Array Value} {n0 : Nat} (hw : ∀ d ∈ tables_1, d.before a0 Z = true) {h0 : Heap} {sN sI sD sU sV : Addr} (a : Int64) (w : Int32) (S_sN : Sta Z Z.heap "com/example/whole_session/wholesession/Change" "NONE" "Lcom/example/whole_session/wholesession/Change;" (.ref sN)) (S_sI : Sta Z Z.heap "com/example/whole_session/wholesession/Change" "INCREASE" "Lcom/example/whole_session/wholesession/Change;" (.ref sI)) (S_sD : Sta Z Z.heap "com/example/whole_session/wholesession/Change" "DECREASE" "Lcom/example/whole_session/wholesession/Change;" (.ref sD)) (S_sU : Sta Z Z.heap "com/example/whole_session/wholesession/Change" "SIGNIFICANT_INCREASE" "Lcom/example/whole_session/wholesession/Change;" (.ref sU)) (S_sV : Sta Z Z.heap "com/example/whole_session/wholesession/Change" "SIGNIFICANT_DECREASE" "Lcom/example/whole_session/wholesession/Change;" (.ref sV)) :
    Does l Z n0 x code maxLocals ret tables_1 room_1 #[(.long a), (.int w)] h0 (fun v _ => v = some (.int 1)) := by
  refine Does.start (plainFor_of_name pn_1) ?_
  intro p e s m below meth c T X
  replace X : Sd Z n0 0 code 11 "com/example/whole_session/wholesession/ChangeOfPinLaw" "law" (some .boolean) h0 p l e room_1 s m #[(.long a), (.int w)] below meth c T [] 0 0 := X
  refine Wp.cast (g' := mkF m 0 #[.val (.long a), .second, .val (.int w), .unset, .unset, .unset, .unset, .unset, .unset, .unset, .unset] []) (by first | rfl | (simp [entryFrame, mkF, argsToLocals, Value.category, maxLocals]; done)) ?_
  refine w_iloadN X d_0 rfl ?_
  refine w_iconst X (1 : Int32) d_1 rfl ?_
  refine w_iand X d_2 ?_
  refine w_ifeq X d_3 (fun (hc3 : (w &&& (1 : Int32)) = (0 : Int32)) => ?_) (fun (hc3 : ¬ (w &&& (1 : Int32)) = (0 : Int32)) => ?_)
  · refine w_iconst X (0 : Int32) d_10 rfl ?_
    refine w_istoreN X #[.val (.long a), .second, .val (.int w), .val (.int (0 : Int32)), .unset, .unset, .unset, .unset, .unset, .unset, .unset] d_11 rfl ?_
    refine w_lloadN X d_12 rfl ?_
    refine w_l2d X d_13 ?_
    refine w_dstore X #[.val (.long a), .second, .val (.int w), .val (.int (0 : Int32)), .val (.double (FP.l2d a)), .second, .unset, .unset, .unset, .unset, .unset] d_14 rfl ?_
    refine w_dload X d_16 rfl ?_
    refine w_dneg X d_18 ?_
    refine w_dstore X #[.val (.long a), .second, .val (.int w), .val (.int (0 : Int32)), .val (.double (FP.l2d a)), .second, .val (.double (FP.dneg (FP.l2d a))), .second, .unset, .unset, .unset] d_19 rfl ?_
    refine w_iconst X (0 : Int32) d_21 rfl ?_
    refine w_istore X #[.val (.long a), .second, .val (.int w), .val (.int (0 : Int32)), .val (.double (FP.l2d a)), .second, .val (.double (FP.dneg (FP.l2d a))), .second, .val (.int (0 : Int32)), .unset, .unset] d_22 rfl ?_
    refine w_lloadN X d_24 rfl ?_
    refine w_lconst X (0 : Int64) d_25 rfl ?_
    refine w_lle X d_26 d_27 (fun (hc27 : ¬ (0 : Int64) < a) => ?_) (fun (hc27 : (0 : Int64) < a) => ?_)
    · refine w_lloadN X d_36 rfl ?_
      refine w_lconst X (0 : Int64) d_37 rfl ?_
      refine w_lge X d_38 d_39 (fun (hc39 : ¬ a < (0 : Int64)) => ?_) (fun (hc39 : a < (0 : Int64)) => ?_)
      · refine w_dload X d_45 rfl ?_
        refine w_iloadN X d_47 rfl ?_
        refine w_callS X d_48 (wd_0 hw) (wd_1 hw) (wd_2 hw) (wd_3 hw) (by decide) (argsL := [(.double (FP.l2d a)), (.int (0 : Int32))]) (S := []) (m_of hw (FP.l2d a) (0 : Int32) S_sN S_sI S_sD S_sU S_sV) pd_0 rfl rfl rfl (by decide) (Nat.le_of_ble_eq_true rfl) (by decide) (by decide) (fun T h1 v1 L1 X q1 => ?_)
        obtain ⟨rfl, rfl⟩ := q1
        show Wp p e below _ (T.setTop (mkF m 51 #[.val (.long a), .second, .val (.int w), .val (.int (0 : Int32)), .val (.double (FP.l2d a)), .second, .val (.double (FP.dneg (FP.l2d a))), .second, .val (.int (0 : Int32)), .unset, .unset] [(.ref (own_sel (cmpValue (FP.dcmp (FP.l2d a) FP.dconst0) .l) (0 : Int32) sN sI sD sU sV))]))
        refine w_astore X #[.val (.long a), .second, .val (.int w), .val (.int (0 : Int32)), .val (.double (FP.l2d a)), .second, .val (.double (FP.dneg (FP.l2d a))), .second, .val (.int (0 : Int32)), .val (.ref (own_sel (cmpValue (FP.dcmp (FP.l2d a) FP.dconst0) .l) (0 : Int32) sN sI sD sU sV)), .unset] d_51 (rfl) rfl ?_
        refine w_dload X d_53 rfl ?_
        refine w_iloadN X d_55 rfl ?_
        refine w_callS X d_56 (wd_0 hw) (wd_1 hw) (wd_2 hw) (wd_3 hw) (by decide) (argsL := [(.double (FP.dneg (FP.l2d a))), (.int (0 : Int32))]) (S := []) (m_of hw (FP.dneg (FP.l2d a)) (0 : Int32) S_sN S_sI S_sD S_sU S_sV) pd_0 rfl rfl rfl (by decide) (Nat.le_of_ble_eq_true rfl) (by decide) (by decide) (fun T h2 v2 L2 X q2 => ?_)
        obtain ⟨rfl, rfl⟩ := q2
        show Wp p e below _ (T.setTop (mkF m 59 #[.val (.long a), .second, .val (.int w), .val (.int (0 : Int32)), .val (.double (FP.l2d a)), .second, .val (.double (FP.dneg (FP.l2d a))), .second, .val (.int (0 : Int32)), .val (.ref (own_sel (cmpValue (FP.dcmp (FP.l2d a) FP.dconst0) .l) (0 : Int32) sN sI sD sU sV)), .unset] [(.ref (own_sel (cmpValue (FP.dcmp (FP.dneg (FP.l2d a)) FP.dconst0) .l) (0 : Int32) sN sI sD sU sV))]))
        refine w_astore X #[.val (.long a), .second, .val (.int w), .val (.int (0 : Int32)), .val (.double (FP.l2d a)), .second, .val (.double (FP.dneg (FP.l2d a))), .second, .val (.int (0 : Int32)), .val (.ref (own_sel (cmpValue (FP.dcmp (FP.l2d a) FP.dconst0) .l) (0 : Int32) sN sI sD sU sV)), .val (.ref (own_sel (cmpValue (FP.dcmp (FP.dneg (FP.l2d a)) FP.dconst0) .l) (0 : Int32) sN sI sD sU sV))] d_59 (rfl) rfl ?_
        refine w_aload X d_61 rfl (rfl) ?_
        refine w_iload X d_63 rfl ?_
        refine w_iloadN X d_65 rfl ?_
        refine w_callS X d_66 (wd_8 hw) (wd_9 hw) (wd_10 hw) (wd_11 hw) (by decide) (argsL := [(.int (0 : Int32)), (.int (0 : Int32))]) (S := [(.ref (own_sel (cmpValue (FP.dcmp (FP.l2d a) FP.dconst0) .l) (0 : Int32) sN sI sD sU sV))]) (m_ex hw (0 : Int32) (0 : Int32) S_sN S_sI S_sD S_sU S_sV) pd_1 rfl rfl rfl (by decide) (Nat.le_of_ble_eq_true rfl) (by decide) (by decide) (fun T h3 v3 L3 X q3 => ?_)
        obtain ⟨rfl, rfl⟩ := q3
        show Wp p e below _ (T.setTop (mkF m 69 #[.val (.long a), .second, .val (.int w), .val (.int (0 : Int32)), .val (.double (FP.l2d a)), .second, .val (.double (FP.dneg (FP.l2d a))), .second, .val (.int (0 : Int32)), .val (.ref (own_sel (cmpValue (FP.dcmp (FP.l2d a) FP.dconst0) .l) (0 : Int32) sN sI sD sU sV)), .val (.ref (own_sel (cmpValue (FP.dcmp (FP.dneg (FP.l2d a)) FP.dconst0) .l) (0 : Int32) sN sI sD sU sV))] [(.ref (own_sel (0 : Int32) (0 : Int32) sN sI sD sU sV)), (.ref (own_sel (cmpValue (FP.dcmp (FP.l2d a) FP.dconst0) .l) (0 : Int32) sN sI sD sU sV))]))
        refine w_acmpne X (rfl) (rfl) d_69 (fun hc => absurd (by rw [(own_eq hc27 hc39).1]) hc) (fun _ => ?_)
        refine w_aload X d_72 rfl (rfl) ?_
        refine w_iload X d_74 rfl ?_
        refine w_ineg X d_76 ?_
        refine w_iloadN X d_77 rfl ?_
        refine w_callS X d_78 (wd_8 hw) (wd_9 hw) (wd_10 hw) (wd_11 hw) (by decide) (argsL := [(.int (0 : Int32)), (.int (0 : Int32))]) (S := [(.ref (own_sel (cmpValue (FP.dcmp (FP.dneg (FP.l2d a)) FP.dconst0) .l) (0 : Int32) sN sI sD sU sV))]) (m_ex hw (0 : Int32) (0 : Int32) S_sN S_sI S_sD S_sU S_sV) pd_1 rfl rfl rfl (by decide) (Nat.le_of_ble_eq_true rfl) (by decide) (by decide) (fun T h4 v4 L4 X q4 => ?_)
        obtain ⟨rfl, rfl⟩ := q4
        show Wp p e below _ (T.setTop (mkF m 81 #[.val (.long a), .second, .val (.int w), .val (.int (0 : Int32)), .val (.double (FP.l2d a)), .second, .val (.double (FP.dneg (FP.l2d a))), .second, .val (.int (0 : Int32)), .val (.ref (own_sel (cmpValue (FP.dcmp (FP.l2d a) FP.dconst0) .l) (0 : Int32) sN sI sD sU sV)), .val (.ref (own_sel (cmpValue (FP.dcmp (FP.dneg (FP.l2d a)) FP.dconst0) .l) (0 : Int32) sN sI sD sU sV))] [(.ref (own_sel (0 : Int32) (0 : Int32) sN sI sD sU sV)), (.ref (own_sel (cmpValue (FP.dcmp (FP.dneg (FP.l2d a)) FP.dconst0) .l) (0 : Int32) sN sI sD sU sV))]))
        refine w_acmpne X (rfl) (rfl) d_81 (fun hc => absurd (by rw [(own_eq hc27 hc39).2]) hc) (fun _ => ?_)
        refine w_iconst X (1 : Int32) d_84 rfl ?_
        refine w_goto X d_85 ?_
        exact w_ret_boolean X (1 : Int32) (by decide) d_89 rfl (by decide) (by decide)
      · refine w_iconst X (-1 : Int32) d_42 rfl ?_
        refine w_istore X #[.val (.long a), .second, .val (.int w), .val (.int (0 : Int32)), .val (.double (FP.l2d a)), .second, .val (.double (FP.dneg (FP.l2d a))), .second, .val (.int (-1 : Int32)), .unset, .unset] d_43 rfl ?_
        refine w_dload X d_45 rfl ?_
        refine w_iloadN X d_47 rfl ?_
        refine w_callS X d_48 (wd_0 hw) (wd_1 hw) (wd_2 hw) (wd_3 hw) (by decide) (argsL := [(.double (FP.l2d a)), (.int (0 : Int32))]) (S := []) (m_of hw (FP.l2d a) (0 : Int32) S_sN S_sI S_sD S_sU S_sV) pd_0 rfl rfl rfl (by decide) (Nat.le_of_ble_eq_true rfl) (by decide) (by decide) (fun T h5 v5 L5 X q5 => ?_)
        obtain ⟨rfl, rfl⟩ := q5
        show Wp p e below _ (T.setTop (mkF m 51 #[.val (.long a), .second, .val (.int w), .val (.int (0 : Int32)), .val (.double (FP.l2d a)), .second, .val (.double (FP.dneg (FP.l2d a))), .second, .val (.int (-1 : Int32)), .unset, .unset] [(.ref (own_sel (cmpValue (FP.dcmp (FP.l2d a) FP.dconst0) .l) (0 : Int32) sN sI sD sU sV))]))
        refine w_astore X #[.val (.long a), .second, .val (.int w), .val (.int (0 : Int32)), .val (.double (FP.l2d a)), .second, .val (.double (FP.dneg (FP.l2d a))), .second, .val (.int (-1 : Int32)), .val (.ref (own_sel (cmpValue (FP.dcmp (FP.l2d a) FP.dconst0) .l) (0 : Int32) sN sI sD sU sV)), .unset] d_51 (rfl) rfl ?_
        refine w_dload X d_53 rfl ?_
        refine w_iloadN X d_55 rfl ?_
        refine w_callS X d_56 (wd_0 hw) (wd_1 hw) (wd_2 hw) (wd_3 hw) (by decide) (argsL := [(.double (FP.dneg (FP.l2d a))), (.int (0 : Int32))]) (S := []) (m_of hw (FP.dneg (FP.l2d a)) (0 : Int32) S_sN S_sI S_sD S_sU S_sV) pd_0 rfl rfl rfl (by decide) (Nat.le_of_ble_eq_true rfl) (by decide) (by decide) (fun T h6 v6 L6 X q6 => ?_)
        obtain ⟨rfl, rfl⟩ := q6
        show Wp p e below _ (T.setTop (mkF m 59 #[.val (.long a), .second, .val (.int w), .val (.int (0 : Int32)), .val (.double (FP.l2d a)), .second, .val (.double (FP.dneg (FP.l2d a))), .second, .val (.int (-1 : Int32)), .val (.ref (own_sel (cmpValue (FP.dcmp (FP.l2d a) FP.dconst0) .l) (0 : Int32) sN sI sD sU sV)), .unset] [(.ref (own_sel (cmpValue (FP.dcmp (FP.dneg (FP.l2d a)) FP.dconst0) .l) (0 : Int32) sN sI sD sU sV))]))
        refine w_astore X #[.val (.long a), .second, .val (.int w), .val (.int (0 : Int32)), .val (.double (FP.l2d a)), .second, .val (.double (FP.dneg (FP.l2d a))), .second, .val (.int (-1 : Int32)), .val (.ref (own_sel (cmpValue (FP.dcmp (FP.l2d a) FP.dconst0) .l) (0 : Int32) sN sI sD sU sV)), .val (.ref (own_sel (cmpValue (FP.dcmp (FP.dneg (FP.l2d a)) FP.dconst0) .l) (0 : Int32) sN sI sD sU sV))] d_59 (rfl) rfl ?_
        refine w_aload X d_61 rfl (rfl) ?_
        refine w_iload X d_63 rfl ?_
        refine w_iloadN X d_65 rfl ?_
        refine w_callS X d_66 (wd_8 hw) (wd_9 hw) (wd_10 hw) (wd_11 hw) (by decide) (argsL := [(.int (-1 : Int32)), (.int (0 : Int32))]) (S := [(.ref (own_sel (cmpValue (FP.dcmp (FP.l2d a) FP.dconst0) .l) (0 : Int32) sN sI sD sU sV))]) (m_ex hw (-1 : Int32) (0 : Int32) S_sN S_sI S_sD S_sU S_sV) pd_1 rfl rfl rfl (by decide) (Nat.le_of_ble_eq_true rfl) (by decide) (by decide) (fun T h7 v7 L7 X q7 => ?_)
        obtain ⟨rfl, rfl⟩ := q7
        show Wp p e below _ (T.setTop (mkF m 69 #[.val (.long a), .second, .val (.int w), .val (.int (0 : Int32)), .val (.double (FP.l2d a)), .second, .val (.double (FP.dneg (FP.l2d a))), .second, .val (.int (-1 : Int32)), .val (.ref (own_sel (cmpValue (FP.dcmp (FP.l2d a) FP.dconst0) .l) (0 : Int32) sN sI sD sU sV)), .val (.ref (own_sel (cmpValue (FP.dcmp (FP.dneg (FP.l2d a)) FP.dconst0) .l) (0 : Int32) sN sI sD sU sV))] [(.ref (own_sel (-1 : Int32) (0 : Int32) sN sI sD sU sV)), (.ref (own_sel (cmpValue (FP.dcmp (FP.l2d a) FP.dconst0) .l) (0 : Int32) sN sI sD sU sV))]))
        refine w_acmpne X (rfl) (rfl) d_69 (fun hc => absurd (by rw [(own_lt hc39).1]) hc) (fun _ => ?_)
        refine w_aload X d_72 rfl (rfl) ?_
        refine w_iload X d_74 rfl ?_
        refine w_ineg X d_76 ?_
        refine w_iloadN X d_77 rfl ?_
        refine w_callS X d_78 (wd_8 hw) (wd_9 hw) (wd_10 hw) (wd_11 hw) (by decide) (argsL := [(.int (1 : Int32)), (.int (0 : Int32))]) (S := [(.ref (own_sel (cmpValue (FP.dcmp (FP.dneg (FP.l2d a)) FP.dconst0) .l) (0 : Int32) sN sI sD sU sV))]) (m_ex hw (1 : Int32) (0 : Int32) S_sN S_sI S_sD S_sU S_sV) pd_1 rfl rfl rfl (by decide) (Nat.le_of_ble_eq_true rfl) (by decide) (by decide) (fun T h8 v8 L8 X q8 => ?_)
        obtain ⟨rfl, rfl⟩ := q8
        show Wp p e below _ (T.setTop (mkF m 81 #[.val (.long a), .second, .val (.int w), .val (.int (0 : Int32)), .val (.double (FP.l2d a)), .second, .val (.double (FP.dneg (FP.l2d a))), .second, .val (.int (-1 : Int32)), .val (.ref (own_sel (cmpValue (FP.dcmp (FP.l2d a) FP.dconst0) .l) (0 : Int32) sN sI sD sU sV)), .val (.ref (own_sel (cmpValue (FP.dcmp (FP.dneg (FP.l2d a)) FP.dconst0) .l) (0 : Int32) sN sI sD sU sV))] [(.ref (own_sel (1 : Int32) (0 : Int32) sN sI sD sU sV)), (.ref (own_sel (cmpValue (FP.dcmp (FP.dneg (FP.l2d a)) FP.dconst0) .l) (0 : Int32) sN sI sD sU sV))]))
        refine w_acmpne X (rfl) (rfl) d_81 (fun hc => absurd (by rw [(own_lt hc39).2]) hc) (fun _ => ?_)
        refine w_iconst X (1 : Int32) d_84 rfl ?_
        refine w_goto X d_85 ?_
        exact w_ret_boolean X (1 : Int32) (by decide) d_89 rfl (by decide) (by decide)
    · refine w_iconst X (1 : Int32) d_30 rfl ?_
      refine w_istore X #[.val (.long a), .second, .val (.int w), .val (.int (0 : Int32)), .val (.double (FP.l2d a)), .second, .val (.double (FP.dneg (FP.l2d a))), .second, .val (.int (1 : Int32)), .unset, .unset] d_31 rfl ?_
      refine w_goto X d_33 ?_
      refine w_dload X d_45 rfl ?_
      refine w_iloadN X d_47 rfl ?_
      refine w_callS X d_48 (wd_0 hw) (wd_1 hw) (wd_2 hw) (wd_3 hw) (by decide) (argsL := [(.double (FP.l2d a)), (.int (0 : Int32))]) (S := []) (m_of hw (FP.l2d a) (0 : Int32) S_sN S_sI S_sD S_sU S_sV) pd_0 rfl rfl rfl (by decide) (Nat.le_of_ble_eq_true rfl) (by decide) (by decide) (fun T h9 v9 L9 X q9 => ?_)
      obtain ⟨rfl, rfl⟩ := q9
      show Wp p e below _ (T.setTop (mkF m 51 #[.val (.long a), .second, .val (.int w), .val (.int (0 : Int32)), .val (.double (FP.l2d a)), .second, .val (.double (FP.dneg (FP.l2d a))), .second, .val (.int (1 : Int32)), .unset, .unset] [(.ref (own_sel (cmpValue (FP.dcmp (FP.l2d a) FP.dconst0) .l) (0 : Int32) sN sI sD sU sV))]))
      refine w_astore X #[.val (.long a), .second, .val (.int w), .val (.int (0 : Int32)), .val (.double (FP.l2d a)), .second, .val (.double (FP.dneg (FP.l2d a))), .second, .val (.int (1 : Int32)), .val (.ref (own_sel (cmpValue (FP.dcmp (FP.l2d a) FP.dconst0) .l) (0 : Int32) sN sI sD sU sV)), .unset] d_51 (rfl) rfl ?_
      refine w_dload X d_53 rfl ?_
      refine w_iloadN X d_55 rfl ?_
      refine w_callS X d_56 (wd_0 hw) (wd_1 hw) (wd_2 hw) (wd_3 hw) (by decide) (argsL := [(.double (FP.dneg (FP.l2d a))), (.int (0 : Int32))]) (S := []) (m_of hw (FP.dneg (FP.l2d a)) (0 : Int32) S_sN S_sI S_sD S_sU S_sV) pd_0 rfl rfl rfl (by decide) (Nat.le_of_ble_eq_true rfl) (by decide) (by decide) (fun T h10 v10 L10 X q10 => ?_)
      obtain ⟨rfl, rfl⟩ := q10
      show Wp p e below _ (T.setTop (mkF m 59 #[.val (.long a), .second, .val (.int w), .val (.int (0 : Int32)), .val (.double (FP.l2d a)), .second, .val (.double (FP.dneg (FP.l2d a))), .second, .val (.int (1 : Int32)), .val (.ref (own_sel (cmpValue (FP.dcmp (FP.l2d a) FP.dconst0) .l) (0 : Int32) sN sI sD sU sV)), .unset] [(.ref (own_sel (cmpValue (FP.dcmp (FP.dneg (FP.l2d a)) FP.dconst0) .l) (0 : Int32) sN sI sD sU sV))]))
      refine w_astore X #[.val (.long a), .second, .val (.int w), .val (.int (0 : Int32)), .val (.double (FP.l2d a)), .second, .val (.double (FP.dneg (FP.l2d a))), .second, .val (.int (1 : Int32)), .val (.ref (own_sel (cmpValue (FP.dcmp (FP.l2d a) FP.dconst0) .l) (0 : Int32) sN sI sD sU sV)), .val (.ref (own_sel (cmpValue (FP.dcmp (FP.dneg (FP.l2d a)) FP.dconst0) .l) (0 : Int32) sN sI sD sU sV))] d_59 (rfl) rfl ?_
      refine w_aload X d_61 rfl (rfl) ?_
      refine w_iload X d_63 rfl ?_
      refine w_iloadN X d_65 rfl ?_
      refine w_callS X d_66 (wd_8 hw) (wd_9 hw) (wd_10 hw) (wd_11 hw) (by decide) (argsL := [(.int (1 : Int32)), (.int (0 : Int32))]) (S := [(.ref (own_sel (cmpValue (FP.dcmp (FP.l2d a) FP.dconst0) .l) (0 : Int32) sN sI sD sU sV))]) (m_ex hw (1 : Int32) (0 : Int32) S_sN S_sI S_sD S_sU S_sV) pd_1 rfl rfl rfl (by decide) (Nat.le_of_ble_eq_true rfl) (by decide) (by decide) (fun T h11 v11 L11 X q11 => ?_)
      obtain ⟨rfl, rfl⟩ := q11
      show Wp p e below _ (T.setTop (mkF m 69 #[.val (.long a), .second, .val (.int w), .val (.int (0 : Int32)), .val (.double (FP.l2d a)), .second, .val (.double (FP.dneg (FP.l2d a))), .second, .val (.int (1 : Int32)), .val (.ref (own_sel (cmpValue (FP.dcmp (FP.l2d a) FP.dconst0) .l) (0 : Int32) sN sI sD sU sV)), .val (.ref (own_sel (cmpValue (FP.dcmp (FP.dneg (FP.l2d a)) FP.dconst0) .l) (0 : Int32) sN sI sD sU sV))] [(.ref (own_sel (1 : Int32) (0 : Int32) sN sI sD sU sV)), (.ref (own_sel (cmpValue (FP.dcmp (FP.l2d a) FP.dconst0) .l) (0 : Int32) sN sI sD sU sV))]))
      refine w_acmpne X (rfl) (rfl) d_69 (fun hc => absurd (by rw [(own_gt hc27).1]) hc) (fun _ => ?_)
      refine w_aload X d_72 rfl (rfl) ?_
      refine w_iload X d_74 rfl ?_
      refine w_ineg X d_76 ?_
      refine w_iloadN X d_77 rfl ?_
      refine w_callS X d_78 (wd_8 hw) (wd_9 hw) (wd_10 hw) (wd_11 hw) (by decide) (argsL := [(.int (-1 : Int32)), (.int (0 : Int32))]) (S := [(.ref (own_sel (cmpValue (FP.dcmp (FP.dneg (FP.l2d a)) FP.dconst0) .l) (0 : Int32) sN sI sD sU sV))]) (m_ex hw (-1 : Int32) (0 : Int32) S_sN S_sI S_sD S_sU S_sV) pd_1 rfl rfl rfl (by decide) (Nat.le_of_ble_eq_true rfl) (by decide) (by decide) (fun T h12 v12 L12 X q12 => ?_)
      obtain ⟨rfl, rfl⟩ := q12
      show Wp p e below _ (T.setTop (mkF m 81 #[.val (.long a), .second, .val (.int w), .val (.int (0 : Int32)), .val (.double (FP.l2d a)), .second, .val (.double (FP.dneg (FP.l2d a))), .second, .val (.int (1 : Int32)), .val (.ref (own_sel (cmpValue (FP.dcmp (FP.l2d a) FP.dconst0) .l) (0 : Int32) sN sI sD sU sV)), .val (.ref (own_sel (cmpValue (FP.dcmp (FP.dneg (FP.l2d a)) FP.dconst0) .l) (0 : Int32) sN sI sD sU sV))] [(.ref (own_sel (-1 : Int32) (0 : Int32) sN sI sD sU sV)), (.ref (own_sel (cmpValue (FP.dcmp (FP.dneg (FP.l2d a)) FP.dconst0) .l) (0 : Int32) sN sI sD sU sV))]))
      refine w_acmpne X (rfl) (rfl) d_81 (fun hc => absurd (by rw [(own_gt hc27).2]) hc) (fun _ => ?_)
      refine w_iconst X (1 : Int32) d_84 rfl ?_
      refine w_goto X d_85 ?_
      exact w_ret_boolean X (1 : Int32) (by decide) d_89 rfl (by decide) (by decide)
  · refine w_iconst X (1 : Int32) d_6 rfl ?_
    refine w_goto X d_7 ?_
    refine w_istoreN X #[.val (.long a), .second, .val (.int w), .val (.int (1 : Int32)), .unset, .unset, .unset, .unset, .unset, .unset, .unset] d_11 rfl ?_
    refine w_lloadN X d_12 rfl ?_
    refine w_l2d X d_13 ?_
    refine w_dstore X #[.val (.long a), .second, .val (.int w), .val (.int (1 : Int32)), .val (.double (FP.l2d a)), .second, .unset, .unset, .unset, .unset, .unset] d_14 rfl ?_
    refine w_dload X d_16 rfl ?_
    refine w_dneg X d_18 ?_
    refine w_dstore X #[.val (.long a), .second, .val (.int w), .val (.int (1 : Int32)), .val (.double (FP.l2d a)), .second, .val (.double (FP.dneg (FP.l2d a))), .second, .unset, .unset, .unset] d_19 rfl ?_
    refine w_iconst X (0 : Int32) d_21 rfl ?_
    refine w_istore X #[.val (.long a), .second, .val (.int w), .val (.int (1 : Int32)), .val (.double (FP.l2d a)), .second, .val (.double (FP.dneg (FP.l2d a))), .second, .val (.int (0 : Int32)), .unset, .unset] d_22 rfl ?_
    refine w_lloadN X d_24 rfl ?_
    refine w_lconst X (0 : Int64) d_25 rfl ?_
    refine w_lle X d_26 d_27 (fun (hc27 : ¬ (0 : Int64) < a) => ?_) (fun (hc27 : (0 : Int64) < a) => ?_)
    · refine w_lloadN X d_36 rfl ?_
      refine w_lconst X (0 : Int64) d_37 rfl ?_
      refine w_lge X d_38 d_39 (fun (hc39 : ¬ a < (0 : Int64)) => ?_) (fun (hc39 : a < (0 : Int64)) => ?_)
      · refine w_dload X d_45 rfl ?_
        refine w_iloadN X d_47 rfl ?_
        refine w_callS X d_48 (wd_0 hw) (wd_1 hw) (wd_2 hw) (wd_3 hw) (by decide) (argsL := [(.double (FP.l2d a)), (.int (1 : Int32))]) (S := []) (m_of hw (FP.l2d a) (1 : Int32) S_sN S_sI S_sD S_sU S_sV) pd_0 rfl rfl rfl (by decide) (Nat.le_of_ble_eq_true rfl) (by decide) (by decide) (fun T h13 v13 L13 X q13 => ?_)
        obtain ⟨rfl, rfl⟩ := q13
        show Wp p e below _ (T.setTop (mkF m 51 #[.val (.long a), .second, .val (.int w), .val (.int (1 : Int32)), .val (.double (FP.l2d a)), .second, .val (.double (FP.dneg (FP.l2d a))), .second, .val (.int (0 : Int32)), .unset, .unset] [(.ref (own_sel (cmpValue (FP.dcmp (FP.l2d a) FP.dconst0) .l) (1 : Int32) sN sI sD sU sV))]))
        refine w_astore X #[.val (.long a), .second, .val (.int w), .val (.int (1 : Int32)), .val (.double (FP.l2d a)), .second, .val (.double (FP.dneg (FP.l2d a))), .second, .val (.int (0 : Int32)), .val (.ref (own_sel (cmpValue (FP.dcmp (FP.l2d a) FP.dconst0) .l) (1 : Int32) sN sI sD sU sV)), .unset] d_51 (rfl) rfl ?_
        refine w_dload X d_53 rfl ?_
        refine w_iloadN X d_55 rfl ?_
        refine w_callS X d_56 (wd_0 hw) (wd_1 hw) (wd_2 hw) (wd_3 hw) (by decide) (argsL := [(.double (FP.dneg (FP.l2d a))), (.int (1 : Int32))]) (S := []) (m_of hw (FP.dneg (FP.l2d a)) (1 : Int32) S_sN S_sI S_sD S_sU S_sV) pd_0 rfl rfl rfl (by decide) (Nat.le_of_ble_eq_true rfl) (by decide) (by decide) (fun T h14 v14 L14 X q14 => ?_)
        obtain ⟨rfl, rfl⟩ := q14
        show Wp p e below _ (T.setTop (mkF m 59 #[.val (.long a), .second, .val (.int w), .val (.int (1 : Int32)), .val (.double (FP.l2d a)), .second, .val (.double (FP.dneg (FP.l2d a))), .second, .val (.int (0 : Int32)), .val (.ref (own_sel (cmpValue (FP.dcmp (FP.l2d a) FP.dconst0) .l) (1 : Int32) sN sI sD sU sV)), .unset] [(.ref (own_sel (cmpValue (FP.dcmp (FP.dneg (FP.l2d a)) FP.dconst0) .l) (1 : Int32) sN sI sD sU sV))]))
        refine w_astore X #[.val (.long a), .second, .val (.int w), .val (.int (1 : Int32)), .val (.double (FP.l2d a)), .second, .val (.double (FP.dneg (FP.l2d a))), .second, .val (.int (0 : Int32)), .val (.ref (own_sel (cmpValue (FP.dcmp (FP.l2d a) FP.dconst0) .l) (1 : Int32) sN sI sD sU sV)), .val (.ref (own_sel (cmpValue (FP.dcmp (FP.dneg (FP.l2d a)) FP.dconst0) .l) (1 : Int32) sN sI sD sU sV))] d_59 (rfl) rfl ?_
        refine w_aload X d_61 rfl (rfl) ?_
        refine w_iload X d_63 rfl ?_
        refine w_iloadN X d_65 rfl ?_
        refine w_callS X d_66 (wd_8 hw) (wd_9 hw) (wd_10 hw) (wd_11 hw) (by decide) (argsL := [(.int (0 : Int32)), (.int (1 : Int32))]) (S := [(.ref (own_sel (cmpValue (FP.dcmp (FP.l2d a) FP.dconst0) .l) (1 : Int32) sN sI sD sU sV))]) (m_ex hw (0 : Int32) (1 : Int32) S_sN S_sI S_sD S_sU S_sV) pd_1 rfl rfl rfl (by decide) (Nat.le_of_ble_eq_true rfl) (by decide) (by decide) (fun T h15 v15 L15 X q15 => ?_)
        obtain ⟨rfl, rfl⟩ := q15
        show Wp p e below _ (T.setTop (mkF m 69 #[.val (.long a), .second, .val (.int w), .val (.int (1 : Int32)), .val (.double (FP.l2d a)), .second, .val (.double (FP.dneg (FP.l2d a))), .second, .val (.int (0 : Int32)), .val (.ref (own_sel (cmpValue (FP.dcmp (FP.l2d a) FP.dconst0) .l) (1 : Int32) sN sI sD sU sV)), .val (.ref (own_sel (cmpValue (FP.dcmp (FP.dneg (FP.l2d a)) FP.dconst0) .l) (1 : Int32) sN sI sD sU sV))] [(.ref (own_sel (0 : Int32) (1 : Int32) sN sI sD sU sV)), (.ref (own_sel (cmpValue (FP.dcmp (FP.l2d a) FP.dconst0) .l) (1 : Int32) sN sI sD sU sV))]))
        refine w_acmpne X (rfl) (rfl) d_69 (fun hc => absurd (by rw [(own_eq hc27 hc39).1]) hc) (fun _ => ?_)
        refine w_aload X d_72 rfl (rfl) ?_
        refine w_iload X d_74 rfl ?_
        refine w_ineg X d_76 ?_
        refine w_iloadN X d_77 rfl ?_
        refine w_callS X d_78 (wd_8 hw) (wd_9 hw) (wd_10 hw) (wd_11 hw) (by decide) (argsL := [(.int (0 : Int32)), (.int (1 : Int32))]) (S := [(.ref (own_sel (cmpValue (FP.dcmp (FP.dneg (FP.l2d a)) FP.dconst0) .l) (1 : Int32) sN sI sD sU sV))]) (m_ex hw (0 : Int32) (1 : Int32) S_sN S_sI S_sD S_sU S_sV) pd_1 rfl rfl rfl (by decide) (Nat.le_of_ble_eq_true rfl) (by decide) (by decide) (fun T h16 v16 L16 X q16 => ?_)
        obtain ⟨rfl, rfl⟩ := q16
        show Wp p e below _ (T.setTop (mkF m 81 #[.val (.long a), .second, .val (.int w), .val (.int (1 : Int32)), .val (.double (FP.l2d a)), .second, .val (.double (FP.dneg (FP.l2d a))), .second, .val (.int (0 : Int32)), .val (.ref (own_sel (cmpValue (FP.dcmp (FP.l2d a) FP.dconst0) .l) (1 : Int32) sN sI sD sU sV)), .val (.ref (own_sel (cmpValue (FP.dcmp (FP.dneg (FP.l2d a)) FP.dconst0) .l) (1 : Int32) sN sI sD sU sV))] [(.ref (own_sel (0 : Int32) (1 : Int32) sN sI sD sU sV)), (.ref (own_sel (cmpValue (FP.dcmp (FP.dneg (FP.l2d a)) FP.dconst0) .l) (1 : Int32) sN sI sD sU sV))]))
        refine w_acmpne X (rfl) (rfl) d_81 (fun hc => absurd (by rw [(own_eq hc27 hc39).2]) hc) (fun _ => ?_)
        refine w_iconst X (1 : Int32) d_84 rfl ?_
        refine w_goto X d_85 ?_
        exact w_ret_boolean X (1 : Int32) (by decide) d_89 rfl (by decide) (by decide)
      · refine w_iconst X (-1 : Int32) d_42 rfl ?_
        refine w_istore X #[.val (.long a), .second, .val (.int w), .val (.int (1 : Int32)), .val (.double (FP.l2d a)), .second, .val (.double (FP.dneg (FP.l2d a))), .second, .val (.int (-1 : Int32)), .unset, .unset] d_43 rfl ?_
        refine w_dload X d_45 rfl ?_
        refine w_iloadN X d_47 rfl ?_
        refine w_callS X d_48 (wd_0 hw) (wd_1 hw) (wd_2 hw) (wd_3 hw) (by decide) (argsL := [(.double (FP.l2d a)), (.int (1 : Int32))]) (S := []) (m_of hw (FP.l2d a) (1 : Int32) S_sN S_sI S_sD S_sU S_sV) pd_0 rfl rfl rfl (by decide) (Nat.le_of_ble_eq_true rfl) (by decide) (by decide) (fun T h17 v17 L17 X q17 => ?_)
        obtain ⟨rfl, rfl⟩ := q17
        show Wp p e below _ (T.setTop (mkF m 51 #[.val (.long a), .second, .val (.int w), .val (.int (1 : Int32)), .val (.double (FP.l2d a)), .second, .val (.double (FP.dneg (FP.l2d a))), .second, .val (.int (-1 : Int32)), .unset, .unset] [(.ref (own_sel (cmpValue (FP.dcmp (FP.l2d a) FP.dconst0) .l) (1 : Int32) sN sI sD sU sV))]))
        refine w_astore X #[.val (.long a), .second, .val (.int w), .val (.int (1 : Int32)), .val (.double (FP.l2d a)), .second, .val (.double (FP.dneg (FP.l2d a))), .second, .val (.int (-1 : Int32)), .val (.ref (own_sel (cmpValue (FP.dcmp (FP.l2d a) FP.dconst0) .l) (1 : Int32) sN sI sD sU sV)), .unset] d_51 (rfl) rfl ?_
        refine w_dload X d_53 rfl ?_
        refine w_iloadN X d_55 rfl ?_
        refine w_callS X d_56 (wd_0 hw) (wd_1 hw) (wd_2 hw) (wd_3 hw) (by decide) (argsL := [(.double (FP.dneg (FP.l2d a))), (.int (1 : Int32))]) (S := []) (m_of hw (FP.dneg (FP.l2d a)) (1 : Int32) S_sN S_sI S_sD S_sU S_sV) pd_0 rfl rfl rfl (by decide) (Nat.le_of_ble_eq_true rfl) (by decide) (by decide) (fun T h18 v18 L18 X q18 => ?_)
        obtain ⟨rfl, rfl⟩ := q18
        show Wp p e below _ (T.setTop (mkF m 59 #[.val (.long a), .second, .val (.int w), .val (.int (1 : Int32)), .val (.double (FP.l2d a)), .second, .val (.double (FP.dneg (FP.l2d a))), .second, .val (.int (-1 : Int32)), .val (.ref (own_sel (cmpValue (FP.dcmp (FP.l2d a) FP.dconst0) .l) (1 : Int32) sN sI sD sU sV)), .unset] [(.ref (own_sel (cmpValue (FP.dcmp (FP.dneg (FP.l2d a)) FP.dconst0) .l) (1 : Int32) sN sI sD sU sV))]))
        refine w_astore X #[.val (.long a), .second, .val (.int w), .val (.int (1 : Int32)), .val (.double (FP.l2d a)), .second, .val (.double (FP.dneg (FP.l2d a))), .second, .val (.int (-1 : Int32)), .val (.ref (own_sel (cmpValue (FP.dcmp (FP.l2d a) FP.dconst0) .l) (1 : Int32) sN sI sD sU sV)), .val (.ref (own_sel (cmpValue (FP.dcmp (FP.dneg (FP.l2d a)) FP.dconst0) .l) (1 : Int32) sN sI sD sU sV))] d_59 (rfl) rfl ?_
        refine w_aload X d_61 rfl (rfl) ?_
        refine w_iload X d_63 rfl ?_
        refine w_iloadN X d_65 rfl ?_
        refine w_callS X d_66 (wd_8 hw) (wd_9 hw) (wd_10 hw) (wd_11 hw) (by decide) (argsL := [(.int (-1 : Int32)), (.int (1 : Int32))]) (S := [(.ref (own_sel (cmpValue (FP.dcmp (FP.l2d a) FP.dconst0) .l) (1 : Int32) sN sI sD sU sV))]) (m_ex hw (-1 : Int32) (1 : Int32) S_sN S_sI S_sD S_sU S_sV) pd_1 rfl rfl rfl (by decide) (Nat.le_of_ble_eq_true rfl) (by decide) (by decide) (fun T h19 v19 L19 X q19 => ?_)
        obtain ⟨rfl, rfl⟩ := q19
        show Wp p e below _ (T.setTop (mkF m 69 #[.val (.long a), .second, .val (.int w), .val (.int (1 : Int32)), .val (.double (FP.l2d a)), .second, .val (.double (FP.dneg (FP.l2d a))), .second, .val (.int (-1 : Int32)), .val (.ref (own_sel (cmpValue (FP.dcmp (FP.l2d a) FP.dconst0) .l) (1 : Int32) sN sI sD sU sV)), .val (.ref (own_sel (cmpValue (FP.dcmp (FP.dneg (FP.l2d a)) FP.dconst0) .l) (1 : Int32) sN sI sD sU sV))] [(.ref (own_sel (-1 : Int32) (1 : Int32) sN sI sD sU sV)), (.ref (own_sel (cmpValue (FP.dcmp (FP.l2d a) FP.dconst0) .l) (1 : Int32) sN sI sD sU sV))]))
        refine w_acmpne X (rfl) (rfl) d_69 (fun hc => absurd (by rw [(own_lt hc39).1]) hc) (fun _ => ?_)
        refine w_aload X d_72 rfl (rfl) ?_
        refine w_iload X d_74 rfl ?_
        refine w_ineg X d_76 ?_
        refine w_iloadN X d_77 rfl ?_
        refine w_callS X d_78 (wd_8 hw) (wd_9 hw) (wd_10 hw) (wd_11 hw) (by decide) (argsL := [(.int (1 : Int32)), (.int (1 : Int32))]) (S := [(.ref (own_sel (cmpValue (FP.dcmp (FP.dneg (FP.l2d a)) FP.dconst0) .l) (1 : Int32) sN sI sD sU sV))]) (m_ex hw (1 : Int32) (1 : Int32) S_sN S_sI S_sD S_sU S_sV) pd_1 rfl rfl rfl (by decide) (Nat.le_of_ble_eq_true rfl) (by decide) (by decide) (fun T h20 v20 L20 X q20 => ?_)
        obtain ⟨rfl, rfl⟩ := q20
        show Wp p e below _ (T.setTop (mkF m 81 #[.val (.long a), .second, .val (.int w), .val (.int (1 : Int32)), .val (.double (FP.l2d a)), .second, .val (.double (FP.dneg (FP.l2d a))), .second, .val (.int (-1 : Int32)), .val (.ref (own_sel (cmpValue (FP.dcmp (FP.l2d a) FP.dconst0) .l) (1 : Int32) sN sI sD sU sV)), .val (.ref (own_sel (cmpValue (FP.dcmp (FP.dneg (FP.l2d a)) FP.dconst0) .l) (1 : Int32) sN sI sD sU sV))] [(.ref (own_sel (1 : Int32) (1 : Int32) sN sI sD sU sV)), (.ref (own_sel (cmpValue (FP.dcmp (FP.dneg (FP.l2d a)) FP.dconst0) .l) (1 : Int32) sN sI sD sU sV))]))
        refine w_acmpne X (rfl) (rfl) d_81 (fun hc => absurd (by rw [(own_lt hc39).2]) hc) (fun _ => ?_)
        refine w_iconst X (1 : Int32) d_84 rfl ?_
        refine w_goto X d_85 ?_
        exact w_ret_boolean X (1 : Int32) (by decide) d_89 rfl (by decide) (by decide)
    · refine w_iconst X (1 : Int32) d_30 rfl ?_
      refine w_istore X #[.val (.long a), .second, .val (.int w), .val (.int (1 : Int32)), .val (.double (FP.l2d a)), .second, .val (.double (FP.dneg (FP.l2d a))), .second, .val (.int (1 : Int32)), .unset, .unset] d_31 rfl ?_
      refine w_goto X d_33 ?_
      refine w_dload X d_45 rfl ?_
      refine w_iloadN X d_47 rfl ?_
      refine w_callS X d_48 (wd_0 hw) (wd_1 hw) (wd_2 hw) (wd_3 hw) (by decide) (argsL := [(.double (FP.l2d a)), (.int (1 : Int32))]) (S := []) (m_of hw (FP.l2d a) (1 : Int32) S_sN S_sI S_sD S_sU S_sV) pd_0 rfl rfl rfl (by decide) (Nat.le_of_ble_eq_true rfl) (by decide) (by decide) (fun T h21 v21 L21 X q21 => ?_)
      obtain ⟨rfl, rfl⟩ := q21
      show Wp p e below _ (T.setTop (mkF m 51 #[.val (.long a), .second, .val (.int w), .val (.int (1 : Int32)), .val (.double (FP.l2d a)), .second, .val (.double (FP.dneg (FP.l2d a))), .second, .val (.int (1 : Int32)), .unset, .unset] [(.ref (own_sel (cmpValue (FP.dcmp (FP.l2d a) FP.dconst0) .l) (1 : Int32) sN sI sD sU sV))]))
      refine w_astore X #[.val (.long a), .second, .val (.int w), .val (.int (1 : Int32)), .val (.double (FP.l2d a)), .second, .val (.double (FP.dneg (FP.l2d a))), .second, .val (.int (1 : Int32)), .val (.ref (own_sel (cmpValue (FP.dcmp (FP.l2d a) FP.dconst0) .l) (1 : Int32) sN sI sD sU sV)), .unset] d_51 (rfl) rfl ?_
      refine w_dload X d_53 rfl ?_
      refine w_iloadN X d_55 rfl ?_
      refine w_callS X d_56 (wd_0 hw) (wd_1 hw) (wd_2 hw) (wd_3 hw) (by decide) (argsL := [(.double (FP.dneg (FP.l2d a))), (.int (1 : Int32))]) (S := []) (m_of hw (FP.dneg (FP.l2d a)) (1 : Int32) S_sN S_sI S_sD S_sU S_sV) pd_0 rfl rfl rfl (by decide) (Nat.le_of_ble_eq_true rfl) (by decide) (by decide) (fun T h22 v22 L22 X q22 => ?_)
      obtain ⟨rfl, rfl⟩ := q22
      show Wp p e below _ (T.setTop (mkF m 59 #[.val (.long a), .second, .val (.int w), .val (.int (1 : Int32)), .val (.double (FP.l2d a)), .second, .val (.double (FP.dneg (FP.l2d a))), .second, .val (.int (1 : Int32)), .val (.ref (own_sel (cmpValue (FP.dcmp (FP.l2d a) FP.dconst0) .l) (1 : Int32) sN sI sD sU sV)), .unset] [(.ref (own_sel (cmpValue (FP.dcmp (FP.dneg (FP.l2d a)) FP.dconst0) .l) (1 : Int32) sN sI sD sU sV))]))
      refine w_astore X #[.val (.long a), .second, .val (.int w), .val (.int (1 : Int32)), .val (.double (FP.l2d a)), .second, .val (.double (FP.dneg (FP.l2d a))), .second, .val (.int (1 : Int32)), .val (.ref (own_sel (cmpValue (FP.dcmp (FP.l2d a) FP.dconst0) .l) (1 : Int32) sN sI sD sU sV)), .val (.ref (own_sel (cmpValue (FP.dcmp (FP.dneg (FP.l2d a)) FP.dconst0) .l) (1 : Int32) sN sI sD sU sV))] d_59 (rfl) rfl ?_
      refine w_aload X d_61 rfl (rfl) ?_
      refine w_iload X d_63 rfl ?_
      refine w_iloadN X d_65 rfl ?_
      refine w_callS X d_66 (wd_8 hw) (wd_9 hw) (wd_10 hw) (wd_11 hw) (by decide) (argsL := [(.int (1 : Int32)), (.int (1 : Int32))]) (S := [(.ref (own_sel (cmpValue (FP.dcmp (FP.l2d a) FP.dconst0) .l) (1 : Int32) sN sI sD sU sV))]) (m_ex hw (1 : Int32) (1 : Int32) S_sN S_sI S_sD S_sU S_sV) pd_1 rfl rfl rfl (by decide) (Nat.le_of_ble_eq_true rfl) (by decide) (by decide) (fun T h23 v23 L23 X q23 => ?_)
      obtain ⟨rfl, rfl⟩ := q23
      show Wp p e below _ (T.setTop (mkF m 69 #[.val (.long a), .second, .val (.int w), .val (.int (1 : Int32)), .val (.double (FP.l2d a)), .second, .val (.double (FP.dneg (FP.l2d a))), .second, .val (.int (1 : Int32)), .val (.ref (own_sel (cmpValue (FP.dcmp (FP.l2d a) FP.dconst0) .l) (1 : Int32) sN sI sD sU sV)), .val (.ref (own_sel (cmpValue (FP.dcmp (FP.dneg (FP.l2d a)) FP.dconst0) .l) (1 : Int32) sN sI sD sU sV))] [(.ref (own_sel (1 : Int32) (1 : Int32) sN sI sD sU sV)), (.ref (own_sel (cmpValue (FP.dcmp (FP.l2d a) FP.dconst0) .l) (1 : Int32) sN sI sD sU sV))]))
      refine w_acmpne X (rfl) (rfl) d_69 (fun hc => absurd (by rw [(own_gt hc27).1]) hc) (fun _ => ?_)
      refine w_aload X d_72 rfl (rfl) ?_
      refine w_iload X d_74 rfl ?_
      refine w_ineg X d_76 ?_
      refine w_iloadN X d_77 rfl ?_
      refine w_callS X d_78 (wd_8 hw) (wd_9 hw) (wd_10 hw) (wd_11 hw) (by decide) (argsL := [(.int (-1 : Int32)), (.int (1 : Int32))]) (S := [(.ref (own_sel (cmpValue (FP.dcmp (FP.dneg (FP.l2d a)) FP.dconst0) .l) (1 : Int32) sN sI sD sU sV))]) (m_ex hw (-1 : Int32) (1 : Int32) S_sN S_sI S_sD S_sU S_sV) pd_1 rfl rfl rfl (by decide) (Nat.le_of_ble_eq_true rfl) (by decide) (by decide) (fun T h24 v24 L24 X q24 => ?_)
      obtain ⟨rfl, rfl⟩ := q24
      show Wp p e below _ (T.setTop (mkF m 81 #[.val (.long a), .second, .val (.int w), .val (.int (1 : Int32)), .val (.double (FP.l2d a)), .second, .val (.double (FP.dneg (FP.l2d a))), .second, .val (.int (1 : Int32)), .val (.ref (own_sel (cmpValue (FP.dcmp (FP.l2d a) FP.dconst0) .l) (1 : Int32) sN sI sD sU sV)), .val (.ref (own_sel (cmpValue (FP.dcmp (FP.dneg (FP.l2d a)) FP.dconst0) .l) (1 : Int32) sN sI sD sU sV))] [(.ref (own_sel (-1 : Int32) (1 : Int32) sN sI sD sU sV)), (.ref (own_sel (cmpValue (FP.dcmp (FP.dneg (FP.l2d a)) FP.dconst0) .l) (1 : Int32) sN sI sD sU sV))]))
      refine w_acmpne X (rfl) (rfl) d_81 (fun hc => absurd (by rw [(own_gt hc27).2]) hc) (fun _ => ?_)
      refine w_iconst X (1 : Int32) d_84 rfl ?_
      refine w_goto X d_85 ?_
      exact w_ret_boolean X (1 : Int32) (by decide) d_89 rfl (by decide) (by decide)
set_option maxRecDepth 65536 in
set_option maxHeartbeats 40000000 in
theorem comes_1 {Post : Tables → Env → Array Value → State → Outcome → State → Prop} (hpost : ∀ tb e args s v u, (limb_1_1.after args s (.returned v) u = true ∧ limb_1_2.after args s (.returned v) u = true ∧ True) → FrameEnd s (.returned v) u (Jvm.fieldLocs frame_1_writes args s ++ Jvm.arrayLocs frame_1_arrays args s ++ Jvm.staticLocs frame_1_statics s) 0 0 → Post tb e args s (.returned v) u) :
    ArmFor flags0 classFile x code maxLocals ret World_1 tables_1 room_1 Calls_1 rest_1 Pre_1 Post := by
  intro l hfl _ _ p e ha hc hk s m args below hf hA hF happ hP
  obtain ⟨hcalls, hrest, hpre⟩ := hP
  obtain ⟨-, -, -, hnamed, -, -, -, hat⟩ := (Spec.applies_iff hf).mp happ
  obtain ⟨hg, hn⟩ := and_e (Cond.before_iff.mp (show (Jvm.Cond.and given_1 narrow_1).before args s = true from hpre))
  obtain ⟨hcount, hg1⟩ := and_e hg
  obtain ⟨ha0, hg2⟩ := and_e hg1
  have ha1 := hg2
  obtain ⟨w0, w1, rfl⟩ : ∃ w0 w1 : Value, args = #[w0, w1] := by
    have hs : args.size = 2 := by simpa [Cond.value, given_1] using hcount
    obtain ⟨L⟩ := args
    match L, hs with
    | [w0, w1], _ => exact ⟨w0, w1, rfl⟩
  have hw := fun d (hd : d ∈ tables_1) => atoms_spec (ws := Jvm.Cond.code x code maxLocals ret :: tables_1) hat d (List.mem_cons_of_mem _ hd)
  have hfit : Fit s := fun {y c} hc i hi => by
    obtain ⟨ha, rfl⟩ := Array.getElem?_eq_some_iff.mp hc
    have q := List.all_eq_true.mp ((Array.all_eq_true_iff_forall_mem.mp hF) _ (Array.getElem_mem ha)) i (List.mem_range.mpr hi)
    simpa [Array.getElem?_eq_getElem hi] using q
  obtain ⟨i0, ei0⟩ := isL_v ha0
  obtain rfl : w0 = (.long i0) := Option.some.inj ei0
  obtain ⟨i1, ei1⟩ := is_v ha1
  obtain rfl : w1 = (.int i1) := Option.some.inj ei1
  obtain ⟨n0, hn0⟩ := and_e hn
  obtain ⟨sI, e_sI⟩ := exa_v n0
  have S_sI : Sta s s.heap "com/example/whole_session/wholesession/Change" "INCREASE" "Lcom/example/whole_session/wholesession/Change;" (.ref sI) := Sta.start e_sI (Or.inr ⟨(wd_2 hw), (wd_5 hw)⟩)
  obtain ⟨n1, hn1⟩ := and_e hn0
  obtain ⟨sD, e_sD⟩ := exa_v n1
  have S_sD : Sta s s.heap "com/example/whole_session/wholesession/Change" "DECREASE" "Lcom/example/whole_session/wholesession/Change;" (.ref sD) := Sta.start e_sD (Or.inr ⟨(wd_2 hw), (wd_7 hw)⟩)
  obtain ⟨n2, hn2⟩ := and_e hn1
  obtain ⟨sU, e_sU⟩ := exa_v n2
  have S_sU : Sta s s.heap "com/example/whole_session/wholesession/Change" "SIGNIFICANT_INCREASE" "Lcom/example/whole_session/wholesession/Change;" (.ref sU) := Sta.start e_sU (Or.inr ⟨(wd_2 hw), (wd_15 hw)⟩)
  obtain ⟨n3, hn3⟩ := and_e hn2
  obtain ⟨sV, e_sV⟩ := exa_v n3
  have S_sV : Sta s s.heap "com/example/whole_session/wholesession/Change" "SIGNIFICANT_DECREASE" "Lcom/example/whole_session/wholesession/Change;" (.ref sV) := Sta.start e_sV (Or.inr ⟨(wd_2 hw), (wd_17 hw)⟩)
  have n4 := hn3
  obtain ⟨sN, e_sN⟩ := exa_v n4
  have S_sN : Sta s s.heap "com/example/whole_session/wholesession/Change" "NONE" "Lcom/example/whole_session/wholesession/Change;" (.ref sN) := Sta.start e_sN (Or.inr ⟨(wd_2 hw), (wd_21 hw)⟩)
  obtain ⟨n, o, h1, h2, h3, v, L, rfl, ⟨N, -, -, rfl⟩, hq⟩ := m_law (l := l) (Z := s) (n0 := s.heap.size) hw i0 i1 S_sN S_sI S_sD S_sU S_sV (Old.start s) p e ha hc hk s m _ below hf ((Spec.applies_iff_loose hf).mp happ).1 ⟨rfl, State.Warmed39.refl s, rfl⟩ trivial
  refine ⟨n, _, h1, h2, h3, hpost _ _ _ _ _ _ ⟨Cond.after_iff.mpr rfl, Cond.after_iff.mpr (eq_i res_at (Term.int_eval (1)) rfl), trivial⟩ ⟨hq.1, hq.2.1, (hq.2.2.sift fun y hy => Or.inr (N y hy)).mono (by decide) (by decide)⟩⟩
theorem main_1_1 : Claimed_1_1 := comes_1 fun _ _ _ _ _ _ h hF => ⟨h.1, hF⟩
theorem main_1_2 : Claimed_1_2 := comes_1 fun _ _ _ _ _ _ h hF => ⟨h.2.1, hF⟩
end Jvm.Pilot.@@N@@
namespace Jvm.Pilot.@@N@@
open Jvm Jvm.ClassFile Sem Op Lib Jvm.Free Jvm.Stand Jvm.Pilot.@@N@@.Jvm.D
/-! MADE BY PROGRAM (witnessworld.py) out of the Statement's table words and the real class files: 12 classes; the members and pool entries that the words name. The judged class is class 1, her method 2. -/
namespace start1
open Jvm.ClassFile
def u (s : String) : CpInfo := .utf8 (stringToUtf16 s)
/-- a pool by its gaps: so many unusable entries, then the entry; so many at the end -/
def gap : Nat → List CpInfo → List CpInfo
  | 0, r => r
  | n + 1, r => .unusable :: gap n r
def poolList (es : List (Nat × CpInfo)) (last : Nat) : List CpInfo := es.foldr (fun e r => gap e.1 (e.2 :: r)) (gap last [])
def pool (es : List (Nat × CpInfo)) (last : Nat) : Array CpInfo := ⟨poolList es last⟩
def fileOf (pool : Array CpInfo) (this : Nat) (attrs : Array Attribute := #[]) (ms : Array MethodInfo := #[]) (fl : Nat := 33) (sup : Nat := 0) (ifs : Array Nat := #[]) (fds : Array FieldInfo := #[]) : ClassFile where
  minorVersion := 0
  majorVersion := 65
  constantPool := pool
  accessFlags := fl
  thisClass := this
  superClass := sup
  interfaces := ifs
  fields := fds
  methods := ms
  attributes := attrs
def plain (name : String) (sup : Option ClassId) : Class where
  name := name
  kind := .ordinary
  loader := none
  accessFlags := 33
  super := sup
  interfaces := #[]
  cf := none
  fields := #[]
  methods := #[]
  instanceTypes := #[]
  staticTypes := #[]
  resolved := #[]
  callSites := []
  init := .initialized
  statics := none
  mirror := none

def pool0 : Array CpInfo := pool [(5, u "<init>"), (0, u "()V"), (1, .class_ 10), (1, u "java/lang/Object")] 113

def k0m0 : Method := { name := "<init>", desc := "()V", sig := { parameters := [], returnType := none }, accessFlags := 1, code := none }
/-- java/lang/Object -/
def k0 : Class := { plain "java/lang/Object" none with
  accessFlags := 33
  interfaces := #[]
  cf := some (fileOf pool0 8 #[] #[{ accessFlags := 1, nameIndex := 5, descriptorIndex := 6, attributes := #[] }] 33 0 #[] #[])
  fields := #[]
  methods := #[k0m0]
  instanceTypes := #[]
  staticTypes := #[]
  resolved := Array.replicate 124 none
  statics := none }

def pool1 : Array CpInfo := pool [(2, .class_ 4), (1, u "java/lang/Object"), (0, u "<init>"), (0, u "()V"), (0, .fieldref 8 9), (0, .class_ 10), (0, .nameAndType 11 12), (0, u "com/example/whole_session/wholesession/Change"), (0, u "NONE"), (0, u "Lcom/example/whole_session/wholesession/Change;"), (0, .fieldref 8 14), (0, .nameAndType 15 12), (0, u "SIGNIFICANT_INCREASE"), (0, .fieldref 8 17), (0, .nameAndType 18 12), (0, u "INCREASE"), (0, .fieldref 8 20), (0, .nameAndType 21 12), (0, u "SIGNIFICANT_DECREASE"), (0, .fieldref 8 23), (0, .nameAndType 24 12), (0, u "DECREASE"), (0, .methodref 8 26), (0, .nameAndType 27 28), (0, u "of"), (0, u "(DZ)Lcom/example/whole_session/wholesession/Change;"), (0, .methodref 30 31), (0, .class_ 32), (0, .nameAndType 33 34), (0, u "com/example/whole_session/wholesession/ChangeOfPinLaw"), (0, u "expected"), (0, u "(IZ)Lcom/example/whole_session/wholesession/Change;"), (3, u "law"), (0, u "(JI)Z")] 2

def k1m0 : Method := { name := "<init>", desc := "()V", sig := { parameters := [], returnType := none }, accessFlags := 2, code := none }
def k1c1 : Code := { maxStack := 1, maxLocals := 2, code := method_2_code, exceptionTable := #[], attributes := #[] }
def k1m1 : Method := { name := "expected", desc := "(IZ)Lcom/example/whole_session/wholesession/Change;", sig := { parameters := [.int, .boolean], returnType := some (.object "com/example/whole_session/wholesession/Change") }, accessFlags := 10, code := some k1c1 }
def k1c2 : Code := { maxStack := 4, maxLocals := 11, code := code, exceptionTable := #[], attributes := #[] }
def k1m2 : Method := { name := "law", desc := "(JI)Z", sig := { parameters := [.long, .int], returnType := some .boolean }, accessFlags := 9, code := some k1c2 }
/-- com/example/whole_session/wholesession/ChangeOfPinLaw -/
def k1 : Class := { plain "com/example/whole_session/wholesession/ChangeOfPinLaw" (some 0) with
  accessFlags := 49
  interfaces := #[]
  cf := some (fileOf pool1 30 #[] #[{ accessFlags := 2, nameIndex := 5, descriptorIndex := 6, attributes := #[] }, { accessFlags := 10, nameIndex := 33, descriptorIndex := 34, attributes := #[] }, { accessFlags := 9, nameIndex := 38, descriptorIndex := 39, attributes := #[] }] 49 2 #[] #[])
  fields := #[]
  methods := #[k1m0, k1m1, k1m2]
  instanceTypes := #[]
  staticTypes := #[]
  resolved := Array.replicate 42 none
  statics := none }

def pool2 : Array CpInfo := pool [(1, .class_ 2), (0, u "java/lang/constant/Constable"), (0, .class_ 4), (0, u "java/lang/Object")] 6

/-- java/lang/constant/Constable -/
def k2 : Class := { plain "java/lang/constant/Constable" (some 0) with
  accessFlags := 1537
  interfaces := #[]
  cf := some (fileOf pool2 1 #[] #[] 1537 3 #[] #[])
  fields := #[]
  methods := #[]
  instanceTypes := #[]
  staticTypes := #[]
  resolved := Array.replicate 11 none
  statics := none }

def pool3 : Array CpInfo := pool [(1, .class_ 2), (0, u "java/lang/Comparable"), (0, .class_ 4), (0, u "java/lang/Object")] 7

/-- java/lang/Comparable -/
def k3 : Class := { plain "java/lang/Comparable" (some 0) with
  accessFlags := 1537
  interfaces := #[]
  cf := some (fileOf pool3 1 #[] #[] 1537 3 #[] #[])
  fields := #[]
  methods := #[]
  instanceTypes := #[]
  staticTypes := #[]
  resolved := Array.replicate 12 none
  statics := none }

def pool4 : Array CpInfo := pool [(1, .class_ 2), (0, u "java/io/Serializable"), (0, .class_ 4), (0, u "java/lang/Object")] 2

/-- java/io/Serializable -/
def k4 : Class := { plain "java/io/Serializable" (some 0) with
  accessFlags := 1537
  interfaces := #[]
  cf := some (fileOf pool4 1 #[] #[] 1537 3 #[] #[])
  fields := #[]
  methods := #[]
  instanceTypes := #[]
  staticTypes := #[]
  resolved := Array.replicate 7 none
  statics := none }

def pool5 : Array CpInfo := pool [(2, .class_ 4), (1, u "java/lang/Enum"), (0, u "name"), (0, u "Ljava/lang/String;"), (2, u "ordinal"), (0, u "I"), (1, .class_ 14), (1, u "java/lang/Object"), (4, u "hash"), (86, .class_ 108), (1, u "java/lang/Enum$EnumDesc"), (2, .class_ 112), (0, u "java/lang/constant/Constable"), (0, .class_ 114), (0, u "java/lang/Comparable"), (0, .class_ 116), (0, u "java/io/Serializable")] 87

/-- java/lang/Enum -/
def k5 : Class := { plain "java/lang/Enum" (some 0) with
  accessFlags := 1057
  interfaces := #[2, 3, 4]
  cf := some (fileOf pool5 2 #[.nestMembers #[106]] #[] 1057 12 #[111, 113, 115] #[{ accessFlags := 18, nameIndex := 5, descriptorIndex := 6, attributes := #[] }, { accessFlags := 18, nameIndex := 9, descriptorIndex := 10, attributes := #[] }, { accessFlags := 2, nameIndex := 19, descriptorIndex := 10, attributes := #[] }])
  fields := #[{ name := "name", type := (.object "java/lang/String"), accessFlags := 18, slot := 0, constantValue := 0 }, { name := "ordinal", type := .int, accessFlags := 18, slot := 1, constantValue := 0 }, { name := "hash", type := .int, accessFlags := 2, slot := 2, constantValue := 0 }]
  methods := #[]
  instanceTypes := #[(.object "java/lang/String"), .int, .int]
  staticTypes := #[]
  resolved := Array.replicate 204 none
  statics := none }

def pool6 : Array CpInfo := pool [(1, .class_ 2), (0, u "com/example/whole_session/wholesession/Change"), (0, .fieldref 1 4), (0, .nameAndType 5 6), (0, u "SIGNIFICANT_INCREASE"), (0, u "Lcom/example/whole_session/wholesession/Change;"), (0, .fieldref 1 8), (0, .nameAndType 9 6), (0, u "SIGNIFICANT_DECREASE"), (0, .fieldref 1 11), (0, .nameAndType 12 6), (0, u "INCREASE"), (0, .fieldref 1 14), (0, .nameAndType 15 6), (0, u "DECREASE"), (0, .fieldref 1 17), (0, .nameAndType 18 6), (0, u "NONE"), (2, u "$VALUES"), (0, u "[Lcom/example/whole_session/wholesession/Change;"), (6, .class_ 31), (1, u "java/lang/Enum"), (8, u "arrow"), (0, u "Ljava/lang/String;"), (29, u "of"), (0, u "(DZ)Lcom/example/whole_session/wholesession/Change;")] 7

def k6c0 : Code := { maxStack := 4, maxLocals := 3, code := prog_1_method_4_code, exceptionTable := #[], attributes := #[] }
def k6m0 : Method := { name := "of", desc := "(DZ)Lcom/example/whole_session/wholesession/Change;", sig := { parameters := [.double, .boolean], returnType := some (.object "com/example/whole_session/wholesession/Change") }, accessFlags := 9, code := some k6c0 }
/-- com/example/whole_session/wholesession/Change -/
def k6 : Class := { plain "com/example/whole_session/wholesession/Change" (some 5) with
  accessFlags := 16433
  interfaces := #[]
  cf := some (fileOf pool6 1 #[] #[{ accessFlags := 9, nameIndex := 71, descriptorIndex := 72, attributes := #[] }] 16433 29 #[] #[{ accessFlags := 16409, nameIndex := 5, descriptorIndex := 6, attributes := #[] }, { accessFlags := 16409, nameIndex := 9, descriptorIndex := 6, attributes := #[] }, { accessFlags := 16409, nameIndex := 12, descriptorIndex := 6, attributes := #[] }, { accessFlags := 16409, nameIndex := 15, descriptorIndex := 6, attributes := #[] }, { accessFlags := 16409, nameIndex := 18, descriptorIndex := 6, attributes := #[] }, { accessFlags := 18, nameIndex := 40, descriptorIndex := 41, attributes := #[] }, { accessFlags := 4122, nameIndex := 21, descriptorIndex := 22, attributes := #[] }])
  fields := #[{ name := "SIGNIFICANT_INCREASE", type := (.object "com/example/whole_session/wholesession/Change"), accessFlags := 16409, slot := 0, constantValue := 0 }, { name := "SIGNIFICANT_DECREASE", type := (.object "com/example/whole_session/wholesession/Change"), accessFlags := 16409, slot := 1, constantValue := 0 }, { name := "INCREASE", type := (.object "com/example/whole_session/wholesession/Change"), accessFlags := 16409, slot := 2, constantValue := 0 }, { name := "DECREASE", type := (.object "com/example/whole_session/wholesession/Change"), accessFlags := 16409, slot := 3, constantValue := 0 }, { name := "NONE", type := (.object "com/example/whole_session/wholesession/Change"), accessFlags := 16409, slot := 4, constantValue := 0 }, { name := "arrow", type := (.object "java/lang/String"), accessFlags := 18, slot := 3, constantValue := 0 }, { name := "$VALUES", type := (.array (.object "com/example/whole_session/wholesession/Change")), accessFlags := 4122, slot := 5, constantValue := 0 }]
  methods := #[k6m0]
  instanceTypes := #[(.object "java/lang/String"), .int, .int, (.object "java/lang/String")]
  staticTypes := #[(.object "com/example/whole_session/wholesession/Change"), (.object "com/example/whole_session/wholesession/Change"), (.object "com/example/whole_session/wholesession/Change"), (.object "com/example/whole_session/wholesession/Change"), (.object "com/example/whole_session/wholesession/Change"), (.array (.object "com/example/whole_session/wholesession/Change"))]
  resolved := Array.replicate 80 none
  statics := some 0 }

def pool7 : Array CpInfo := pool [(1, u "java/lang/Cloneable"), (0, .class_ 1), (0, u "java/lang/Object"), (0, .class_ 3)] 3

/-- java/lang/Cloneable -/
def k7 : Class := { plain "java/lang/Cloneable" (some 0) with
  accessFlags := 1537
  interfaces := #[]
  cf := some (fileOf pool7 2 #[] #[] 1537 4 #[] #[])
  fields := #[]
  methods := #[]
  instanceTypes := #[]
  staticTypes := #[]
  resolved := Array.replicate 8 none
  statics := none }

/-- the primitive byte -/
def k8 : Class := { plain "byte" none with kind := .primitive 'B', accessFlags := 0x411 }
/-- [B -/
def k9 : Class := { plain "[B" (some 0) with kind := .array 8 .byte, interfaces := #[7, 4], accessFlags := 1041 }

/-- the primitive int -/
def k10 : Class := { plain "int" none with kind := .primitive 'I', accessFlags := 0x411 }
/-- [I -/
def k11 : Class := { plain "[I" (some 0) with kind := .array 10 .int, interfaces := #[7, 4], accessFlags := 1041 }

def heap : Heap := #[{ cls := 6, slots := #[.ref 1, .ref 1, .ref 1, .ref 1, .ref 1, .null], vm := .statics 6 },
  { cls := 6, slots := #[.null, .int 0, .int 0, .null], vm := .none }]
def classes : Array Class := #[k0, k1, k2, k3, k4, k5, k6, k7, k8, k9, k10, k11]
def interned : List (Array UInt16 × Addr) := []
def slotsUsed : Nat := 10
def theMethod : MethodId := ⟨1, 2⟩
def args0 : Array Value := #[.long 5, .int 1]
def aboutOver (below : List Frame) : State where
  vm := { classes := classes, interned := interned.toArray }
  heap := heap
  slotsUsed := slotsUsed
  threads := #[{ frames := .invoking theMethod args0 :: below }]
def below0 : List Frame := [.native { method := ⟨0, 0⟩, args := #[] }]
def about1 : State := aboutOver below0
def p0 : Program := .bare "" "" ""
def e0 : Env := launch0.env 0 0 0
theorem w_frames : about1.frames = Frame.invoking theMethod args0 :: below0 := rfl
set_option maxRecDepth 65536 in
theorem w_args : argsFit about1.vm theMethod args0 = true := by decide +kernel
set_option maxRecDepth 65536 in
theorem w_heap : heapFits about1 = true := by decide +kernel
set_option maxRecDepth 65536 in
theorem w_runnable : about1.curStatus? = some .runnable := by decide +kernel
set_option maxRecDepth 65536 in
theorem w_alone : about1.alone = true := by decide +kernel
set_option maxRecDepth 65536 in
theorem w_named : about1.methodNamed? x = some theMethod := by decide +kernel
set_option maxRecDepth 65536 in
theorem w_hears : about1.hears theMethod below0 = true := by decide +kernel
set_option maxRecDepth 65536 in
theorem w_ripe : about1.ripe theMethod args0 below0 = true := by decide +kernel
theorem w_running : about1.status = .running := rfl
set_option maxRecDepth 65536 in
theorem w_room : about1.hasRoom e0.platform room_1 = true :=
  launch0.hasRoom_least _ room_1 (by decide +kernel) (by decide +kernel) (by decide +kernel) (by decide +kernel) (by decide +kernel) (by decide +kernel)
theorem allAtoms_all (ts : List Jvm.Cond) (a : Array Jvm.Value) (st : Jvm.State) : (allAtoms ts).before a st = ts.all (fun c => c.before a st) := by
  induction ts with
  | nil => rfl
  | cons c t ih =>
    show (Jvm.Cond.and c (allAtoms t)).before a st = _
    rw [Jvm.Cond.before_and, ih, List.all_cons]
def words1 : List Jvm.Cond := Jvm.Cond.code x code maxLocals ret :: tables_1
/-- a 'code' word, met by the world's own term for the bytes: nothing is compared byte by byte -/
theorem code_word {y : MethodName} {bytes : ByteArray} {mx : Nat} {rt : Option FieldType} {a : Array Value} {s : State} {m : MethodId} {meth : Method} {c : Code} (h1 : s.methodNamed? y = some m) (h2 : s.vm.method? m = some meth) (h3 : meth.code = some c) (h4 : c.code = bytes)
    (h5 : (c.maxLocals == mx && c.exceptionTable.isEmpty && decide (c.maxStack ≤ mostOperands) && decide (meth.sig.returnType = rt) && !meth.locks && decide (parseMethodDescriptor y.desc = some meth.sig)) = true) : (Jvm.Cond.code y bytes mx rt).before a s = true := by
  simp only [Bool.and_eq_true, beq_iff_eq, Bool.not_eq_true', decide_eq_true_eq] at h5
  obtain ⟨⟨⟨⟨⟨g1, g2⟩, g3⟩, g4⟩, g5⟩, g6⟩ := h5
  simp [Cond.before, Cond.holds, Cond.value, h1, h2, h3, h4, g1, g2, g3, g4, g5, g6]
def isCode : Jvm.Cond → Bool
  | .code _ _ _ _ => true
  | _ => false
theorem all_split {L : List Jvm.Cond} {P : Jvm.Cond → Bool} (h1 : L.all (fun c => isCode c || P c) = true) (h2 : ∀ c ∈ L.filter isCode, P c = true) : L.all P = true := by
  refine List.all_eq_true.mpr fun c hc => ?_
  have h := List.all_eq_true.mp h1 c hc
  rcases Bool.eq_false_or_eq_true (isCode c) with hi | hi
  · exact h2 c (List.mem_filter.mpr ⟨hc, hi⟩)
  · simpa [hi] using h
set_option maxRecDepth 65536 in
theorem w_c0 : (Jvm.Cond.code x code maxLocals ret).before args0 about1 = true := code_word (m := ⟨1, 2⟩) (meth := k1m2) (c := k1c2) (by decide +kernel) rfl rfl rfl (by decide +kernel)
set_option maxRecDepth 65536 in
theorem w_c1 : (Jvm.Cond.code ({ cls := "com/example/whole_session/wholesession/Change", name := "of", desc := "(DZ)Lcom/example/whole_session/wholesession/Change;" } : Jvm.MethodName) prog_1_method_4_code (3 : Nat) (Option.some (Jvm.ClassFile.FieldType.object "com/example/whole_session/wholesession/Change"))).before args0 about1 = true := code_word (m := ⟨6, 0⟩) (meth := k6m0) (c := k6c0) (by decide +kernel) rfl rfl rfl (by decide +kernel)
set_option maxRecDepth 65536 in
theorem w_c2 : (Jvm.Cond.code ({ cls := "com/example/whole_session/wholesession/ChangeOfPinLaw", name := "expected", desc := "(IZ)Lcom/example/whole_session/wholesession/Change;" } : Jvm.MethodName) method_2_code (2 : Nat) (Option.some (Jvm.ClassFile.FieldType.object "com/example/whole_session/wholesession/Change"))).before args0 about1 = true := code_word (m := ⟨1, 1⟩) (meth := k1m1) (c := k1c1) (by decide +kernel) rfl rfl rfl (by decide +kernel)
def codes1 : List Jvm.Cond := [Jvm.Cond.code x code maxLocals ret, Jvm.Cond.code ({ cls := "com/example/whole_session/wholesession/Change", name := "of", desc := "(DZ)Lcom/example/whole_session/wholesession/Change;" } : Jvm.MethodName) prog_1_method_4_code (3 : Nat) (Option.some (Jvm.ClassFile.FieldType.object "com/example/whole_session/wholesession/Change")), Jvm.Cond.code ({ cls := "com/example/whole_session/wholesession/ChangeOfPinLaw", name := "expected", desc := "(IZ)Lcom/example/whole_session/wholesession/Change;" } : Jvm.MethodName) method_2_code (2 : Nat) (Option.some (Jvm.ClassFile.FieldType.object "com/example/whole_session/wholesession/Change"))]
set_option maxRecDepth 65536 in
theorem codes_eq : words1.filter isCode = codes1 := rfl
theorem w_codes : ∀ c ∈ words1.filter isCode, c.before args0 about1 = true := by
  rw [codes_eq]
  intro c hc
  simp only [codes1, List.mem_cons, List.not_mem_nil, or_false] at hc
  rcases hc with rfl | rfl | rfl
  · exact w_c0
  · exact w_c1
  · exact w_c2
set_option maxRecDepth 65536 in
theorem w_t1 : words1.all (fun c => isCode c || c.before args0 about1) = true := by decide +kernel
theorem w_tables : (allAtoms (Jvm.Cond.code x code maxLocals ret :: tables_1)).before args0 about1 = true := by
  rw [allAtoms_all]
  show words1.all (fun c => c.before args0 about1) = true
  refine all_split ?_ w_codes
  rw [w_t1]
set_option maxRecDepth 65536 in
theorem w_case : (Jvm.Cond.and given_1 narrow_1).before args0 about1 = true := by decide +kernel
theorem w_applies : (headSpec (Jvm.Cond.code x code maxLocals ret :: tables_1) room_1).applies x e0.platform about1 = true :=
  (Spec.applies_iff w_frames).mpr ⟨w_running, w_runnable, w_alone, w_named, w_hears, w_ripe, w_room, w_tables⟩
theorem atStart : AtStart classFile x code maxLocals ret World_1 tables_1 room_1 Calls_1 rest_1 Pre_1 launch0 p0 e0 about1 theMethod args0 below0 :=
  ⟨lists_1, trivial, launch0.admits_env _ _ _, launch0.least_env, fairChoices_fair.cas, fairChoices_fair.clock, w_frames, w_args, w_heap, w_applies, trivial, trivial, w_case⟩
end start1
theorem witness_1 : WitnessClaimed_1 := ⟨start1.p0, start1.e0, start1.about1, start1.theMethod, start1.args0, start1.below0, start1.atStart⟩
end Jvm.Pilot.@@N@@
