import JvmDerived
import JvmDerived.Pilot.@@N@@Statement
import JvmDerived.Pilot.@@N@@Code
set_option linter.unusedVariables false
set_option linter.unusedSimpArgs false
set_option maxRecDepth 65536
set_option maxHeartbeats 40000000
@@BLOCK:NumsL.lean.txt@@
@@BLOCK:LamKit.lean.txt@@
namespace Jvm.RoadKit
open Sem ClassFile Op Lib Jvm.Stand Jvm.Free Jvm.LawKit
/-- from U the run comes to an end of the invocation at which P holds -/
def Wp (p : Program) (e : Env) (below : List Frame) (P : State → Outcome → Prop) (U : State) : Prop :=
  ∃ s₂ o, Steps p.tables e below U s₂ ∧ s₂.status = .running ∧ Ended s₂ below o ∧ P s₂ o
theorem Wp.of {p : Program} {e : Env} {below : List Frame} {P : State → Outcome → Prop} {U U' : State} (f : ∀ t, Steps p.tables e below U' t → Steps p.tables e below U t) (k : Wp p e below P U') : Wp p e below P U := by
  obtain ⟨s2, o, a, b⟩ := k; exact ⟨s2, o, f _ a, b⟩
theorem Wp.tr {p : Program} {e : Env} {below : List Frame} {P : State → Outcome → Prop} {U U' : State} (f : Steps p.tables e below U U') (k : Wp p e below P U') : Wp p e below P U := by
  obtain ⟨s2, o, a, b⟩ := k; exact ⟨s2, o, f.trans a, b⟩
theorem Wp.cast {p : Program} {e : Env} {below : List Frame} {P : State → Outcome → Prop} {T : State} {g g' : JFrame} (q : g = g') (k : Wp p e below P (T.setTop g')) : Wp p e below P (T.setTop g) := q ▸ k
/-- where the walk stands: the library's Stand, what stays the same throughout a body, the heap, that only new places were written, that the start's cells are as they were -/
def Sd (Z : State) (n0 kk : Nat) (code : ByteArray) (ml : Nat) (own nm : String) (ret : Option FieldType) (h : Heap) (p : Program) (l : Launch) (e : Env) (R : Room) (s : State) (m : MethodId) (args : Array Value) (below : List Frame) (meth : Method) (c : Code) (T : State) (locs : List Loc) (cells slots : Nat) : Prop :=
  Stand p l e R s m args below meth c T locs cells slots ∧ (p.tables.exec = Jvm.exec ∧ c.code = code ∧ c.maxLocals = ml ∧ s.vm.findClass own = some m.cls ∧ Z.Warmed39 s.vm ∧ meth.sig.returnType = ret ∧ meth.name = nm ∧ meth.locks = false) ∧ T.heap = h ∧ Fr n0 locs ∧ Old Z n0 h ∧ kk ≤ h.size
/-- an instruction of n bytes and the pc behind it -/
def Dc (code : ByteArray) (pc : Nat) (i : Instr) (n pc' : Nat) : Prop := decode code pc = .ok (i, n) ∧ pc + n = pc'
/-- a branch of three bytes, its target and the pc behind it -/
def Bc (code : ByteArray) (pc : Nat) (f : Int → Instr) (t pc' : Nat) : Prop := ∃ o, decode code pc = .ok (f o, 3) ∧ 0 ≤ (pc : Int) + o ∧ ((pc : Int) + o).toNat = t ∧ pc + 3 = pc'

section Sd
variable {Z : State} {n0 kk : Nat} {code : ByteArray} {ml : Nat} {own nm : String} {ret : Option FieldType} {h : Heap} {p : Program} {l : Launch} {e : Env} {R : Room} {s : State} {m : MethodId} {args : Array Value} {below : List Frame} {meth : Method} {c : Code} {T : State} {locs : List Loc} {cells slots : Nat} {P : State → Outcome → Prop} {a0 : Array Value}
theorem Sd.st (X : Sd Z n0 kk code ml own nm ret h p l e R s m args below meth c T locs cells slots) : Stand p l e R s m args below meth c T locs cells slots := X.1
theorem Sd.hx (X : Sd Z n0 kk code ml own nm ret h p l e R s m args below meth c T locs cells slots) : p.tables.exec = Jvm.exec := X.2.1.1
theorem Sd.hb (X : Sd Z n0 kk code ml own nm ret h p l e R s m args below meth c T locs cells slots) {pc : Nat} {r : Except DecodeError (Instr × Nat)} (q : decode code pc = r) : decode c.code pc = r := X.2.1.2.1 ▸ q
theorem Sd.hml (X : Sd Z n0 kk code ml own nm ret h p l e R s m args below meth c T locs cells slots) : c.maxLocals = ml := X.2.1.2.2.1
theorem Sd.hown (X : Sd Z n0 kk code ml own nm ret h p l e R s m args below meth c T locs cells slots) : s.vm.findClass own = some m.cls := X.2.1.2.2.2.1
theorem Sd.hZ (X : Sd Z n0 kk code ml own nm ret h p l e R s m args below meth c T locs cells slots) : Z.Warmed39 s.vm := X.2.1.2.2.2.2.1
theorem Sd.hret (X : Sd Z n0 kk code ml own nm ret h p l e R s m args below meth c T locs cells slots) : meth.sig.returnType = ret := X.2.1.2.2.2.2.2.1
theorem Sd.hnm (X : Sd Z n0 kk code ml own nm ret h p l e R s m args below meth c T locs cells slots) : meth.name = nm := X.2.1.2.2.2.2.2.2.1
theorem Sd.hlk (X : Sd Z n0 kk code ml own nm ret h p l e R s m args below meth c T locs cells slots) : meth.locks = false := X.2.1.2.2.2.2.2.2.2
theorem Sd.eh (X : Sd Z n0 kk code ml own nm ret h p l e R s m args below meth c T locs cells slots) : T.heap = h := X.2.2.1
theorem Sd.fr (X : Sd Z n0 kk code ml own nm ret h p l e R s m args below meth c T locs cells slots) : Fr n0 locs := X.2.2.2.1
theorem Sd.old (X : Sd Z n0 kk code ml own nm ret h p l e R s m args below meth c T locs cells slots) : Old Z n0 h := X.2.2.2.2.1
theorem Sd.hkk (X : Sd Z n0 kk code ml own nm ret h p l e R s m args below meth c T locs cells slots) : kk ≤ h.size := X.2.2.2.2.2
theorem Sd.mk' {h' : Heap} {T' : State} {locs' : List Loc} {c' s' : Nat} (X : Sd Z n0 kk code ml own nm ret h p l e R s m args below meth c T locs cells slots) (Y : Stand p l e R s m args below meth c T' locs' c' s') (q1 : T'.heap = h') (q2 : Fr n0 locs') (q3 : Old Z n0 h') (q4 : h.size ≤ h'.size) : Sd Z n0 kk code ml own nm ret h' p l e R s m args below meth c T' locs' c' s' := ⟨Y, X.2.1, q1, q2, q3, Nat.le_trans X.hkk q4⟩
end Sd
section Steps
variable {Z : State} {n0 kk : Nat} {code : ByteArray} {ml : Nat} {own nm : String} {ret : Option FieldType} {h : Heap} {p : Program} {l : Launch} {e : Env} {R : Room} {s : State} {m : MethodId} {args : Array Value} {below : List Frame} {meth : Method} {c : Code} {T : State} {locs : List Loc} {cells slots : Nat} {P : State → Outcome → Prop} {a0 : Array Value} {pc pc' : Nat} {L : Array Slot} {S : List Value}
theorem w_iloadN (X : Sd Z n0 kk code ml own nm ret h p l e R s m args below meth c T locs cells slots) {k : Fin 4} {v : Int32} (hd : Dc code pc (.iload_n k) 1 pc') (hl : L[k.val]? = some (.val (.int v))) (K : Wp p e below P (T.setTop (mkF m pc' L (.int v :: S)))) : Wp p e below P (T.setTop (mkF m pc L S)) := by
  obtain ⟨hd, rfl⟩ := hd
  exact Wp.of (fun _ k => XS.iloadN X.st.here X.hx rfl (X.hb hd) hl k) K
theorem w_iload (X : Sd Z n0 kk code ml own nm ret h p l e R s m args below meth c T locs cells slots) {k : Nat} {v : Int32} (hd : Dc code pc (.iload k) 2 pc') (hl : L[k]? = some (.val (.int v))) (K : Wp p e below P (T.setTop (mkF m pc' L (.int v :: S)))) : Wp p e below P (T.setTop (mkF m pc L S)) := by
  obtain ⟨hd, rfl⟩ := hd
  exact Wp.of (fun _ k => XS.iload X.st.here X.hx rfl (X.hb hd) hl k) K
theorem w_lloadN (X : Sd Z n0 kk code ml own nm ret h p l e R s m args below meth c T locs cells slots) {k : Fin 4} {v : Int64} (hd : Dc code pc (.lload_n k) 1 pc') (hl : L[k.val]? = some (.val (.long v))) (K : Wp p e below P (T.setTop (mkF m pc' L (.long v :: S)))) : Wp p e below P (T.setTop (mkF m pc L S)) := by
  obtain ⟨hd, rfl⟩ := hd
  exact Wp.of (fun _ k => XS.lloadN X.st.here X.hx rfl (X.hb hd) hl k) K
theorem w_lload (X : Sd Z n0 kk code ml own nm ret h p l e R s m args below meth c T locs cells slots) {k : Nat} {v : Int64} (hd : Dc code pc (.lload k) 2 pc') (hl : L[k]? = some (.val (.long v))) (K : Wp p e below P (T.setTop (mkF m pc' L (.long v :: S)))) : Wp p e below P (T.setTop (mkF m pc L S)) := by
  obtain ⟨hd, rfl⟩ := hd
  exact Wp.of (fun _ k => XS.lload X.st.here X.hx rfl (X.hb hd) hl k) K
theorem w_aloadN (X : Sd Z n0 kk code ml own nm ret h p l e R s m args below meth c T locs cells slots) {k : Fin 4} {v : Value} (hd : Dc code pc (.aload_n k) 1 pc') (hl : L[k.val]? = some (.val v)) (hv : v.isRef = true) (K : Wp p e below P (T.setTop (mkF m pc' L (v :: S)))) : Wp p e below P (T.setTop (mkF m pc L S)) := by
  obtain ⟨hd, rfl⟩ := hd
  exact Wp.of (fun _ k => XS.aloadN X.st.here X.hx rfl (X.hb hd) hl hv k) K
theorem w_aload (X : Sd Z n0 kk code ml own nm ret h p l e R s m args below meth c T locs cells slots) {k : Nat} {v : Value} (hd : Dc code pc (.aload k) 2 pc') (hl : L[k]? = some (.val v)) (hv : v.isRef = true) (K : Wp p e below P (T.setTop (mkF m pc' L (v :: S)))) : Wp p e below P (T.setTop (mkF m pc L S)) := by
  obtain ⟨hd, rfl⟩ := hd
  exact Wp.of (fun _ k => XS.aload X.st.here X.hx rfl (X.hb hd) hl hv k) K
theorem w_istoreN (X : Sd Z n0 kk code ml own nm ret h p l e R s m args below meth c T locs cells slots) {k : Fin 4} {v : Int32} (L' : Array Slot) (hd : Dc code pc (.istore_n k) 1 pc') (hl : storeLocals L k.val (.int v) = some L') (K : Wp p e below P (T.setTop (mkF m pc' L' S))) : Wp p e below P (T.setTop (mkF m pc L (.int v :: S))) := by
  obtain ⟨hd, rfl⟩ := hd
  exact Wp.of (fun _ k => XS.istoreN X.st.here X.hx rfl (X.hb hd) rfl hl k) K
theorem w_istore (X : Sd Z n0 kk code ml own nm ret h p l e R s m args below meth c T locs cells slots) {k : Nat} {v : Int32} (L' : Array Slot) (hd : Dc code pc (.istore k) 2 pc') (hl : storeLocals L k (.int v) = some L') (K : Wp p e below P (T.setTop (mkF m pc' L' S))) : Wp p e below P (T.setTop (mkF m pc L (.int v :: S))) := by
  obtain ⟨hd, rfl⟩ := hd
  exact Wp.of (fun _ k => XS.istore X.st.here X.hx rfl (X.hb hd) rfl hl k) K
theorem w_lstoreN (X : Sd Z n0 kk code ml own nm ret h p l e R s m args below meth c T locs cells slots) {k : Fin 4} {v : Int64} (L' : Array Slot) (hd : Dc code pc (.lstore_n k) 1 pc') (hl : storeLocals L k.val (.long v) = some L') (K : Wp p e below P (T.setTop (mkF m pc' L' S))) : Wp p e below P (T.setTop (mkF m pc L (.long v :: S))) := by
  obtain ⟨hd, rfl⟩ := hd
  exact Wp.of (fun _ k => XS.lstoreN X.st.here X.hx rfl (X.hb hd) rfl hl k) K
theorem w_lstore (X : Sd Z n0 kk code ml own nm ret h p l e R s m args below meth c T locs cells slots) {k : Nat} {v : Int64} (L' : Array Slot) (hd : Dc code pc (.lstore k) 2 pc') (hl : storeLocals L k (.long v) = some L') (K : Wp p e below P (T.setTop (mkF m pc' L' S))) : Wp p e below P (T.setTop (mkF m pc L (.long v :: S))) := by
  obtain ⟨hd, rfl⟩ := hd
  exact Wp.of (fun _ k => XS.lstore X.st.here X.hx rfl (X.hb hd) rfl hl k) K
theorem w_astoreN (X : Sd Z n0 kk code ml own nm ret h p l e R s m args below meth c T locs cells slots) {k : Fin 4} {v : Value} (L' : Array Slot) (hd : Dc code pc (.astore_n k) 1 pc') (hv : v.isRef = true) (hl : storeLocals L k.val v = some L') (K : Wp p e below P (T.setTop (mkF m pc' L' S))) : Wp p e below P (T.setTop (mkF m pc L (v :: S))) := by
  obtain ⟨hd, rfl⟩ := hd
  exact Wp.of (fun _ k => XS.astoreN X.st.here X.hx rfl (X.hb hd) rfl hv hl k) K
theorem w_astore (X : Sd Z n0 kk code ml own nm ret h p l e R s m args below meth c T locs cells slots) {k : Nat} {v : Value} (L' : Array Slot) (hd : Dc code pc (.astore k) 2 pc') (hv : v.isRef = true) (hl : storeLocals L k v = some L') (K : Wp p e below P (T.setTop (mkF m pc' L' S))) : Wp p e below P (T.setTop (mkF m pc L (v :: S))) := by
  obtain ⟨hd, rfl⟩ := hd
  exact Wp.of (fun _ k => XS.astore X.st.here X.hx rfl (X.hb hd) rfl hv hl k) K
theorem w_iconst (X : Sd Z n0 kk code ml own nm ret h p l e R s m args below meth c T locs cells slots) {i : Int} (v : Int32) (hd : Dc code pc (.iconst i) 1 pc') (hv : Int32.ofInt i = v) (K : Wp p e below P (T.setTop (mkF m pc' L (.int v :: S)))) : Wp p e below P (T.setTop (mkF m pc L S)) := by
  obtain ⟨hd, rfl⟩ := hd
  exact Wp.of (fun _ k => XS.iconst X.st.here X.hx rfl (X.hb hd) (by rw [hv]; exact k)) K
theorem w_bipush (X : Sd Z n0 kk code ml own nm ret h p l e R s m args below meth c T locs cells slots) {i : Int} (v : Int32) (hd : Dc code pc (.bipush i) 2 pc') (hv : (Int8.ofInt i).toInt32 = v) (K : Wp p e below P (T.setTop (mkF m pc' L (.int v :: S)))) : Wp p e below P (T.setTop (mkF m pc L S)) := by
  obtain ⟨hd, rfl⟩ := hd
  exact Wp.of (fun _ k => XS.bipush X.st.here X.hx rfl (X.hb hd) (by rw [hv]; exact k)) K
theorem w_sipush (X : Sd Z n0 kk code ml own nm ret h p l e R s m args below meth c T locs cells slots) {i : Int} (v : Int32) (hd : Dc code pc (.sipush i) 3 pc') (hv : (Int16.ofInt i).toInt32 = v) (K : Wp p e below P (T.setTop (mkF m pc' L (.int v :: S)))) : Wp p e below P (T.setTop (mkF m pc L S)) := by
  obtain ⟨hd, rfl⟩ := hd
  exact Wp.of (fun _ k => XS.sipush X.st.here X.hx rfl (X.hb hd) (by rw [hv]; exact k)) K
theorem w_lconst (X : Sd Z n0 kk code ml own nm ret h p l e R s m args below meth c T locs cells slots) {i : Fin 2} (v : Int64) (hd : Dc code pc (.lconst i) 1 pc') (hv : Int64.ofNat i = v) (K : Wp p e below P (T.setTop (mkF m pc' L (.long v :: S)))) : Wp p e below P (T.setTop (mkF m pc L S)) := by
  obtain ⟨hd, rfl⟩ := hd
  exact Wp.of (fun _ k => XS.lconst X.st.here X.hx rfl (X.hb hd) (by rw [hv]; exact k)) K
theorem w_aconstNull (X : Sd Z n0 kk code ml own nm ret h p l e R s m args below meth c T locs cells slots)  (hd : Dc code pc (.aconst_null) 1 pc')  (K : Wp p e below P (T.setTop (mkF m pc' L (.null :: S)))) : Wp p e below P (T.setTop (mkF m pc L S)) := by
  obtain ⟨hd, rfl⟩ := hd
  exact Wp.of (fun _ k => XS.aconstNull X.st.here X.hx rfl (X.hb hd) k) K
theorem w_iadd (X : Sd Z n0 kk code ml own nm ret h p l e R s m args below meth c T locs cells slots) {x y : Int32} (hd : Dc code pc (.iadd) 1 pc')  (K : Wp p e below P (T.setTop (mkF m pc' L (.int (x + y) :: S)))) : Wp p e below P (T.setTop (mkF m pc L (.int y :: .int x :: S))) := by
  obtain ⟨hd, rfl⟩ := hd
  exact Wp.of (fun _ k => XS.iadd X.st.here X.hx rfl (X.hb hd) rfl k) K
theorem w_ladd (X : Sd Z n0 kk code ml own nm ret h p l e R s m args below meth c T locs cells slots) {x y : Int64} (hd : Dc code pc (.ladd) 1 pc')  (K : Wp p e below P (T.setTop (mkF m pc' L (.long (x + y) :: S)))) : Wp p e below P (T.setTop (mkF m pc L (.long y :: .long x :: S))) := by
  obtain ⟨hd, rfl⟩ := hd
  exact Wp.of (fun _ k => XS.ladd X.st.here X.hx rfl (X.hb hd) rfl k) K
theorem w_lsub (X : Sd Z n0 kk code ml own nm ret h p l e R s m args below meth c T locs cells slots) {x y : Int64} (hd : Dc code pc (.lsub) 1 pc')  (K : Wp p e below P (T.setTop (mkF m pc' L (.long (x - y) :: S)))) : Wp p e below P (T.setTop (mkF m pc L (.long y :: .long x :: S))) := by
  obtain ⟨hd, rfl⟩ := hd
  exact Wp.of (fun _ k => XS.lsub X.st.here X.hx rfl (X.hb hd) rfl k) K
theorem w_lmul (X : Sd Z n0 kk code ml own nm ret h p l e R s m args below meth c T locs cells slots) {x y : Int64} (hd : Dc code pc (.lmul) 1 pc')  (K : Wp p e below P (T.setTop (mkF m pc' L (.long (x * y) :: S)))) : Wp p e below P (T.setTop (mkF m pc L (.long y :: .long x :: S))) := by
  obtain ⟨hd, rfl⟩ := hd
  exact Wp.of (fun _ k => XS.lmul X.st.here X.hx rfl (X.hb hd) rfl k) K
theorem w_land (X : Sd Z n0 kk code ml own nm ret h p l e R s m args below meth c T locs cells slots) {x y : Int64} (hd : Dc code pc (.land) 1 pc')  (K : Wp p e below P (T.setTop (mkF m pc' L (.long (x &&& y) :: S)))) : Wp p e below P (T.setTop (mkF m pc L (.long y :: .long x :: S))) := by
  obtain ⟨hd, rfl⟩ := hd
  exact Wp.of (fun _ k => XS.land X.st.here X.hx rfl (X.hb hd) rfl k) K
theorem w_ldiv (X : Sd Z n0 kk code ml own nm ret h p l e R s m args below meth c T locs cells slots) {x y : Int64} (hd : Dc code pc (.ldiv) 1 pc') (hy : ¬ y = 0) (K : Wp p e below P (T.setTop (mkF m pc' L (.long (x / y) :: S)))) : Wp p e below P (T.setTop (mkF m pc L (.long y :: .long x :: S))) := by
  obtain ⟨hd, rfl⟩ := hd
  exact Wp.of (fun _ k => XS.ldiv X.st.here X.hx rfl (X.hb hd) rfl hy k) K
theorem w_i2l (X : Sd Z n0 kk code ml own nm ret h p l e R s m args below meth c T locs cells slots) {x : Int32} (hd : Dc code pc (.i2l) 1 pc')  (K : Wp p e below P (T.setTop (mkF m pc' L (.long (x.toInt64) :: S)))) : Wp p e below P (T.setTop (mkF m pc L (.int x :: S))) := by
  obtain ⟨hd, rfl⟩ := hd
  exact Wp.of (fun _ k => XS.i2l X.st.here X.hx rfl (X.hb hd) rfl k) K
theorem w_l2i (X : Sd Z n0 kk code ml own nm ret h p l e R s m args below meth c T locs cells slots) {x : Int64} (hd : Dc code pc (.l2i) 1 pc')  (K : Wp p e below P (T.setTop (mkF m pc' L (.int (x.toInt32) :: S)))) : Wp p e below P (T.setTop (mkF m pc L (.long x :: S))) := by
  obtain ⟨hd, rfl⟩ := hd
  exact Wp.of (fun _ k => XS.l2i X.st.here X.hx rfl (X.hb hd) rfl k) K
theorem w_lcmp (X : Sd Z n0 kk code ml own nm ret h p l e R s m args below meth c T locs cells slots) {x y : Int64} (hd : Dc code pc (.lcmp) 1 pc')  (K : Wp p e below P (T.setTop (mkF m pc' L (.int (lcmpW x y) :: S)))) : Wp p e below P (T.setTop (mkF m pc L (.long y :: .long x :: S))) := by
  obtain ⟨hd, rfl⟩ := hd
  exact Wp.of (fun _ k => XS.lcmp X.st.here X.hx rfl (X.hb hd) rfl k) K
theorem w_dup (X : Sd Z n0 kk code ml own nm ret h p l e R s m args below meth c T locs cells slots) {x : Value} (hd : Dc code pc (.dup) 1 pc') (hc : x.category = 1) (K : Wp p e below P (T.setTop (mkF m pc' L (x :: x :: S)))) : Wp p e below P (T.setTop (mkF m pc L (x :: S))) := by
  obtain ⟨hd, rfl⟩ := hd
  exact Wp.of (fun _ k => XS.dup X.st.here X.hx rfl (X.hb hd) rfl hc k) K
theorem w_dupX1 (X : Sd Z n0 kk code ml own nm ret h p l e R s m args below meth c T locs cells slots) {x y : Value} (hd : Dc code pc (.dup_x1) 1 pc') (hc : x.category = 1) (hc' : y.category = 1) (K : Wp p e below P (T.setTop (mkF m pc' L (x :: y :: x :: S)))) : Wp p e below P (T.setTop (mkF m pc L (x :: y :: S))) := by
  obtain ⟨hd, rfl⟩ := hd
  exact Wp.of (fun _ k => XS.dupX1 X.st.here X.hx rfl (X.hb hd) rfl hc hc' k) K
theorem w_pop (X : Sd Z n0 kk code ml own nm ret h p l e R s m args below meth c T locs cells slots) {x : Value} (hd : Dc code pc (.pop) 1 pc') (hc : x.category = 1) (K : Wp p e below P (T.setTop (mkF m pc' L S))) : Wp p e below P (T.setTop (mkF m pc L (x :: S))) := by
  obtain ⟨hd, rfl⟩ := hd
  exact Wp.of (fun _ k => XS.pop X.st.here X.hx rfl (X.hb hd) rfl hc k) K
theorem w_goto (X : Sd Z n0 kk code ml own nm ret h p l e R s m args below meth c T locs cells slots) {t : Nat} (hd : Bc code pc .goto t pc') (K : Wp p e below P (T.setTop (mkF m t L S))) : Wp p e below P (T.setTop (mkF m pc L S)) := by
  obtain ⟨o, hd, h1, h2, -⟩ := hd
  exact Wp.of (fun _ k => XS.goto X.st.here X.hx rfl (pc0 := pc) rfl (X.hb hd) h1 h2 k) K
theorem w_ifeq (X : Sd Z n0 kk code ml own nm ret h p l e R s m args below meth c T locs cells slots) {x : Int32} {t : Nat} (hd : Bc code pc (.ifCond .eq) t pc') (K1 : x = 0 → Wp p e below P (T.setTop (mkF m t L S))) (K2 : ¬ x = 0 → Wp p e below P (T.setTop (mkF m pc' L S))) : Wp p e below P (T.setTop (mkF m pc L (.int x :: S))) := by
  obtain ⟨o, hd, h1, h2, rfl⟩ := hd
  by_cases q : ifCond.holds .eq x = true
  · exact Wp.of (fun _ k => XS.ifYes X.st.here X.hx rfl (pc0 := pc) rfl (X.hb hd) rfl q h1 h2 k) (K1 (by simpa [ifCond.holds, Int32.not_lt] using q))
  · exact Wp.of (fun _ k => XS.ifNo X.st.here X.hx rfl (X.hb hd) rfl (by simpa using q) k) (K2 (by simpa [ifCond.holds, Int32.not_lt] using q))
theorem w_icmpeq (X : Sd Z n0 kk code ml own nm ret h p l e R s m args below meth c T locs cells slots) {x y : Int32} {t : Nat} (hd : Bc code pc (.if_icmp .eq) t pc') (K1 : x = y → Wp p e below P (T.setTop (mkF m t L S))) (K2 : ¬ x = y → Wp p e below P (T.setTop (mkF m pc' L S))) : Wp p e below P (T.setTop (mkF m pc L (.int y :: .int x :: S))) := by
  obtain ⟨o, hd, h1, h2, rfl⟩ := hd
  by_cases q : if_icmp.holds .eq x y = true
  · exact Wp.of (fun _ k => XS.icmpYes X.st.here X.hx rfl (pc0 := pc) rfl (X.hb hd) rfl q h1 h2 k) (K1 (by simpa [if_icmp.holds, Int32.not_lt] using q))
  · exact Wp.of (fun _ k => XS.icmpNo X.st.here X.hx rfl (X.hb hd) rfl (by simpa using q) k) (K2 (by simpa [if_icmp.holds, Int32.not_lt] using q))
theorem w_ifne (X : Sd Z n0 kk code ml own nm ret h p l e R s m args below meth c T locs cells slots) {x : Int32} {t : Nat} (hd : Bc code pc (.ifCond .ne) t pc') (K1 : ¬ x = 0 → Wp p e below P (T.setTop (mkF m t L S))) (K2 : x = 0 → Wp p e below P (T.setTop (mkF m pc' L S))) : Wp p e below P (T.setTop (mkF m pc L (.int x :: S))) := by
  obtain ⟨o, hd, h1, h2, rfl⟩ := hd
  by_cases q : ifCond.holds .ne x = true
  · exact Wp.of (fun _ k => XS.ifYes X.st.here X.hx rfl (pc0 := pc) rfl (X.hb hd) rfl q h1 h2 k) (K1 (by simpa [ifCond.holds, Int32.not_lt] using q))
  · exact Wp.of (fun _ k => XS.ifNo X.st.here X.hx rfl (X.hb hd) rfl (by simpa using q) k) (K2 (by simpa [ifCond.holds, Int32.not_lt] using q))
theorem w_iflt (X : Sd Z n0 kk code ml own nm ret h p l e R s m args below meth c T locs cells slots) {x : Int32} {t : Nat} (hd : Bc code pc (.ifCond .lt) t pc') (K1 : x < 0 → Wp p e below P (T.setTop (mkF m t L S))) (K2 : ¬ x < 0 → Wp p e below P (T.setTop (mkF m pc' L S))) : Wp p e below P (T.setTop (mkF m pc L (.int x :: S))) := by
  obtain ⟨o, hd, h1, h2, rfl⟩ := hd
  by_cases q : ifCond.holds .lt x = true
  · exact Wp.of (fun _ k => XS.ifYes X.st.here X.hx rfl (pc0 := pc) rfl (X.hb hd) rfl q h1 h2 k) (K1 (by simpa [ifCond.holds, Int32.not_lt] using q))
  · exact Wp.of (fun _ k => XS.ifNo X.st.here X.hx rfl (X.hb hd) rfl (by simpa using q) k) (K2 (by simpa [ifCond.holds, Int32.not_lt] using q))
theorem w_ifge (X : Sd Z n0 kk code ml own nm ret h p l e R s m args below meth c T locs cells slots) {x : Int32} {t : Nat} (hd : Bc code pc (.ifCond .ge) t pc') (K1 : ¬ x < 0 → Wp p e below P (T.setTop (mkF m t L S))) (K2 : x < 0 → Wp p e below P (T.setTop (mkF m pc' L S))) : Wp p e below P (T.setTop (mkF m pc L (.int x :: S))) := by
  obtain ⟨o, hd, h1, h2, rfl⟩ := hd
  by_cases q : ifCond.holds .ge x = true
  · exact Wp.of (fun _ k => XS.ifYes X.st.here X.hx rfl (pc0 := pc) rfl (X.hb hd) rfl q h1 h2 k) (K1 (by simpa [ifCond.holds, Int32.not_lt] using q))
  · exact Wp.of (fun _ k => XS.ifNo X.st.here X.hx rfl (X.hb hd) rfl (by simpa using q) k) (K2 (by simpa [ifCond.holds, Int32.not_lt] using q))
theorem w_ifgt (X : Sd Z n0 kk code ml own nm ret h p l e R s m args below meth c T locs cells slots) {x : Int32} {t : Nat} (hd : Bc code pc (.ifCond .gt) t pc') (K1 : 0 < x → Wp p e below P (T.setTop (mkF m t L S))) (K2 : ¬ 0 < x → Wp p e below P (T.setTop (mkF m pc' L S))) : Wp p e below P (T.setTop (mkF m pc L (.int x :: S))) := by
  obtain ⟨o, hd, h1, h2, rfl⟩ := hd
  by_cases q : ifCond.holds .gt x = true
  · exact Wp.of (fun _ k => XS.ifYes X.st.here X.hx rfl (pc0 := pc) rfl (X.hb hd) rfl q h1 h2 k) (K1 (by simpa [ifCond.holds, Int32.not_lt] using q))
  · exact Wp.of (fun _ k => XS.ifNo X.st.here X.hx rfl (X.hb hd) rfl (by simpa using q) k) (K2 (by simpa [ifCond.holds, Int32.not_lt] using q))
theorem w_ifle (X : Sd Z n0 kk code ml own nm ret h p l e R s m args below meth c T locs cells slots) {x : Int32} {t : Nat} (hd : Bc code pc (.ifCond .le) t pc') (K1 : ¬ 0 < x → Wp p e below P (T.setTop (mkF m t L S))) (K2 : 0 < x → Wp p e below P (T.setTop (mkF m pc' L S))) : Wp p e below P (T.setTop (mkF m pc L (.int x :: S))) := by
  obtain ⟨o, hd, h1, h2, rfl⟩ := hd
  by_cases q : ifCond.holds .le x = true
  · exact Wp.of (fun _ k => XS.ifYes X.st.here X.hx rfl (pc0 := pc) rfl (X.hb hd) rfl q h1 h2 k) (K1 (by simpa [ifCond.holds, Int32.not_lt] using q))
  · exact Wp.of (fun _ k => XS.ifNo X.st.here X.hx rfl (X.hb hd) rfl (by simpa using q) k) (K2 (by simpa [ifCond.holds, Int32.not_lt] using q))
theorem own_lc (x y : Int64) : (lcmpW x y < 0 ↔ x < y) ∧ (0 < lcmpW x y ↔ y < x) ∧ (lcmpW x y = 0 ↔ x = y) := by rw [lcW]; exact ⟨lc_lt x y, lc_gt x y, lc_eq x y⟩
theorem w_lne (X : Sd Z n0 kk code ml own nm ret h p l e R s m args below meth c T locs cells slots) {x y : Int64} {t pc1 : Nat} (hd : Dc code pc .lcmp 1 pc1) (hd2 : Bc code pc1 (.ifCond .ne) t pc') (K1 : ¬ x = y → Wp p e below P (T.setTop (mkF m t L S))) (K2 : x = y → Wp p e below P (T.setTop (mkF m pc' L S))) : Wp p e below P (T.setTop (mkF m pc L (.long y :: .long x :: S))) :=
  w_lcmp X hd (w_ifne X hd2 (fun q => K1 (fun r => q ((own_lc x y).2.2.mpr r))) (fun q => K2 ((own_lc x y).2.2.mp q)))
theorem w_llt (X : Sd Z n0 kk code ml own nm ret h p l e R s m args below meth c T locs cells slots) {x y : Int64} {t pc1 : Nat} (hd : Dc code pc .lcmp 1 pc1) (hd2 : Bc code pc1 (.ifCond .lt) t pc') (K1 : x < y → Wp p e below P (T.setTop (mkF m t L S))) (K2 : ¬ x < y → Wp p e below P (T.setTop (mkF m pc' L S))) : Wp p e below P (T.setTop (mkF m pc L (.long y :: .long x :: S))) :=
  w_lcmp X hd (w_iflt X hd2 (fun q => K1 ((own_lc x y).1.mp q)) (fun q => K2 (fun r => q ((own_lc x y).1.mpr r))))
theorem w_lge (X : Sd Z n0 kk code ml own nm ret h p l e R s m args below meth c T locs cells slots) {x y : Int64} {t pc1 : Nat} (hd : Dc code pc .lcmp 1 pc1) (hd2 : Bc code pc1 (.ifCond .ge) t pc') (K1 : ¬ x < y → Wp p e below P (T.setTop (mkF m t L S))) (K2 : x < y → Wp p e below P (T.setTop (mkF m pc' L S))) : Wp p e below P (T.setTop (mkF m pc L (.long y :: .long x :: S))) :=
  w_lcmp X hd (w_ifge X hd2 (fun q => K1 (fun r => q ((own_lc x y).1.mpr r))) (fun q => K2 ((own_lc x y).1.mp q)))
theorem w_lgt (X : Sd Z n0 kk code ml own nm ret h p l e R s m args below meth c T locs cells slots) {x y : Int64} {t pc1 : Nat} (hd : Dc code pc .lcmp 1 pc1) (hd2 : Bc code pc1 (.ifCond .gt) t pc') (K1 : y < x → Wp p e below P (T.setTop (mkF m t L S))) (K2 : ¬ y < x → Wp p e below P (T.setTop (mkF m pc' L S))) : Wp p e below P (T.setTop (mkF m pc L (.long y :: .long x :: S))) :=
  w_lcmp X hd (w_ifgt X hd2 (fun q => K1 ((own_lc x y).2.1.mp q)) (fun q => K2 (fun r => q ((own_lc x y).2.1.mpr r))))
theorem w_ifnullT (X : Sd Z n0 kk code ml own nm ret h p l e R s m args below meth c T locs cells slots) {t : Nat} (hd : Bc code pc .ifnull t pc') (K : Wp p e below P (T.setTop (mkF m t L S))) : Wp p e below P (T.setTop (mkF m pc L (.null :: S))) := by
  obtain ⟨o, hd, h1, h2, -⟩ := hd
  exact Wp.of (fun _ k => XS.ifnullYes X.st.here X.hx rfl (pc0 := pc) rfl (X.hb hd) rfl h1 h2 k) K
theorem w_ifnullF (X : Sd Z n0 kk code ml own nm ret h p l e R s m args below meth c T locs cells slots) {t : Nat} {a : Addr} (hd : Bc code pc .ifnull t pc') (K : Wp p e below P (T.setTop (mkF m pc' L S))) : Wp p e below P (T.setTop (mkF m pc L (.ref a :: S))) := by
  obtain ⟨o, hd, h1, h2, rfl⟩ := hd
  exact Wp.of (fun _ k => XS.ifnullNo X.st.here X.hx rfl (X.hb hd) rfl k) K
theorem w_ifnonnullT (X : Sd Z n0 kk code ml own nm ret h p l e R s m args below meth c T locs cells slots) {t : Nat} {a : Addr} (hd : Bc code pc .ifnonnull t pc') (K : Wp p e below P (T.setTop (mkF m t L S))) : Wp p e below P (T.setTop (mkF m pc L (.ref a :: S))) := by
  obtain ⟨o, hd, h1, h2, -⟩ := hd
  exact Wp.of (fun _ k => XS.ifnonnullYes X.st.here X.hx rfl (pc0 := pc) rfl (X.hb hd) rfl h1 h2 k) K
theorem w_ifnonnullF (X : Sd Z n0 kk code ml own nm ret h p l e R s m args below meth c T locs cells slots) {t : Nat} (hd : Bc code pc .ifnonnull t pc') (K : Wp p e below P (T.setTop (mkF m pc' L S))) : Wp p e below P (T.setTop (mkF m pc L (.null :: S))) := by
  obtain ⟨o, hd, h1, h2, rfl⟩ := hd
  exact Wp.of (fun _ k => XS.ifnonnullNo X.st.here X.hx rfl (X.hb hd) rfl k) K
theorem w_acmpeq (X : Sd Z n0 kk code ml own nm ret h p l e R s m args below meth c T locs cells slots) {x y : Value} {t : Nat} (hx' : x.isRef = true) (hy' : y.isRef = true) (hd : Bc code pc (.if_acmp .eq) t pc') (K1 : x = y → Wp p e below P (T.setTop (mkF m t L S))) (K2 : ¬ x = y → Wp p e below P (T.setTop (mkF m pc' L S))) : Wp p e below P (T.setTop (mkF m pc L (y :: x :: S))) := by
  obtain ⟨o, hd, h1, h2, rfl⟩ := hd
  by_cases q : x = y
  · exact Wp.of (fun _ k => Jvm.RoadKit.acmp X.st X.hx rfl hx' hy' (pc0 := pc) (same := true) rfl (X.hb hd) rfl (decide_eq_true q) h1 (by simp [acV, h2]) k) (K1 q)
  · exact Wp.of (fun _ k => Jvm.RoadKit.acmp X.st X.hx rfl hx' hy' (pc0 := pc) (same := false) rfl (X.hb hd) rfl (decide_eq_false q) h1 (by simp [acV, h2]) k) (K2 q)
theorem w_acmpne (X : Sd Z n0 kk code ml own nm ret h p l e R s m args below meth c T locs cells slots) {x y : Value} {t : Nat} (hx' : x.isRef = true) (hy' : y.isRef = true) (hd : Bc code pc (.if_acmp .ne) t pc') (K1 : ¬ x = y → Wp p e below P (T.setTop (mkF m t L S))) (K2 : x = y → Wp p e below P (T.setTop (mkF m pc' L S))) : Wp p e below P (T.setTop (mkF m pc L (y :: x :: S))) := by
  obtain ⟨o, hd, h1, h2, rfl⟩ := hd
  by_cases q : x = y
  · exact Wp.of (fun _ k => Jvm.RoadKit.acmp X.st X.hx rfl hx' hy' (pc0 := pc) (same := true) rfl (X.hb hd) rfl (decide_eq_true q) h1 (by simp [acV, h2]) k) (K2 q)
  · exact Wp.of (fun _ k => Jvm.RoadKit.acmp X.st X.hx rfl hx' hy' (pc0 := pc) (same := false) rfl (X.hb hd) rfl (decide_eq_false q) h1 (by simp [acV, h2]) k) (K1 q)
theorem w_ldc2J (X : Sd Z n0 kk code ml own nm ret h p l e R s m args below meth c T locs cells slots) {i : Nat} {v : Int64} (hd : Dc code pc (.ldc2_w i) 3 pc') (hw : (Cond.constantLong own i v).before a0 Z = true) (K : Wp p e below P (T.setTop (mkF m pc' L (.long v :: S)))) : Wp p e below P (T.setTop (mkF m pc L S)) := by
  obtain ⟨hd, rfl⟩ := hd
  exact Wp.of (fun _ k => X.st.ldc2Long X.hx X.hown (mvT X.hZ hw) (g := mkF m pc L S) rfl (X.hb hd) _ k) K
end Steps
/-- what a contract says of the end -/
def Po (Z : State) (n0 : Nat) (s : State) (Q : Option Value → Heap → Prop) (ce sl : Nat) : State → Outcome → Prop := fun U o => ∃ v L, o = .returned v ∧ (Fr n0 L ∧ Old Z n0 U.heap ∧ s.heap.size ≤ U.heap.size ∧ Q v U.heap) ∧ FrameEnd s o U L ce sl
/-- called with these arguments at the heap h0, y returns and Q holds of what it returns and of the heap behind it -/
def Does (l : Launch) (Z : State) (n0 : Nat) (y : MethodName) (code : ByteArray) (ml : Nat) (ret : Option FieldType) (ws : List Cond) (rm : Room) (as' : Array Value) (h0 : Heap) (Q : Option Value → Heap → Prop) : Prop :=
  Old Z n0 h0 → MetFree l y (head1 (Cond.code y code ml ret :: ws) rm) (fun a U => a = as' ∧ Z.Warmed39 U.vm ∧ U.heap = h0) (fun _ _ _ _ _ => True) (fun _ U o U' => ∃ v L, o = .returned v ∧ (Fr n0 L ∧ Old Z n0 U'.heap ∧ h0.size ≤ U'.heap.size ∧ Q v U'.heap) ∧ FrameEnd U o U' L rm.cells rm.slots)
theorem Does.start {l : Launch} {Z : State} {n0 : Nat} {y : MethodName} {code : ByteArray} {ml : Nat} {ret : Option FieldType} {ws : List Cond} {rm : Room} {as' : Array Value} {h0 : Heap} {Q : Option Value → Heap → Prop} (hp : plainFor y = true)
    (body : ∀ p e s m below meth c s₁, Sd Z n0 0 code ml y.cls y.name ret h0 p l e rm s m as' below meth c s₁ [] 0 0 → Wp p e below (Po Z n0 s Q rm.cells rm.slots) (s₁.setTop (entryFrame m as' ml))) : Does l Z n0 y code ml ret ws rm as' h0 Q := by
  intro hold
  refine MetFree.of_bodySF hp hisR ?_
  intro p e s m args below meth c s₁ Bd hml0 hP hK
  obtain ⟨rfl, hZ, hh⟩ := hP
  have hh' := hh
  subst hh
  exact body p e s m below meth c s₁ ⟨Stand.of_body Bd, ⟨Bd.exec, Bd.bytes, hml0, findClass_of_methodNamed Bd.named, hZ, Bd.returns, (name_of_methodNamed Bd.named Bd.method).1, Bd.notSynchronized⟩, by rw [Bd.state]; rfl, Fr.nil n0, hold, Nat.zero_le _⟩
theorem Does.mono {l : Launch} {Z : State} {n0 : Nat} {y : MethodName} {code : ByteArray} {ml : Nat} {ret : Option FieldType} {ws : List Cond} {rm : Room} {as' : Array Value} {h0 : Heap} {Q Q' : Option Value → Heap → Prop} (D : Does l Z n0 y code ml ret ws rm as' h0 Q) (f : ∀ v h, Q v h → Q' v h) : Does l Z n0 y code ml ret ws rm as' h0 Q' := by
  intro hold p e ha hc hk s m args below hf happ hP hK
  obtain ⟨n, o, h1, h2, h3, v, L, e1, ⟨q1, q2, q2', q3⟩, q4⟩ := D hold p e ha hc hk s m args below hf happ hP hK
  exact ⟨n, o, h1, h2, h3, v, L, e1, ⟨q1, q2, q2', f _ _ q3⟩, q4⟩
section Steps2
variable {Z : State} {n0 kk : Nat} {code : ByteArray} {ml : Nat} {own nm : String} {ret : Option FieldType} {h : Heap} {p : Program} {l : Launch} {e : Env} {R : Room} {s : State} {m : MethodId} {args : Array Value} {below : List Frame} {meth : Method} {c : Code} {T : State} {locs : List Loc} {cells slots : Nat} {P : State → Outcome → Prop} {a0 : Array Value} {pc pc' : Nat} {L : Array Slot} {S : List Value} {Q : Option Value → Heap → Prop} {ce sl : Nat}
theorem Sd.done (X : Sd Z n0 kk code ml own nm ret h p l e R s m args below meth c T locs cells slots) {v : Option Value} (hv : ret = none → v = none) (hq : Q v h) (hc : cells ≤ ce) (hs : slots ≤ sl) {g : JFrame} (step : ∀ fs, (∀ (f : JFrame) (acts : List Action), f.method = m → f.locked = none → f.entered = [] → (doReturn e (T.setTop f) acts v).1 = T.setFrames fs) → Steps p.tables e below (T.setTop g) (T.setFrames fs)) : Wp p e below (Po Z n0 s Q ce sl) (T.setTop g) := by
  obtain ⟨fs, hr, hrun, hended, hW, hsame⟩ := X.st.leave (v := v) (fun q => hv (X.hret ▸ q)) X.hlk
  have e1 : (T.setFrames fs).heap = h := X.eh
  refine ⟨_, _, step fs hr, hrun, hended, v, locs, rfl, ⟨X.fr, ?_, X.st.same.2.1, ?_⟩, ⟨_, rfl⟩, hW, hsame.mono hc hs⟩
  · rw [e1]; exact X.old
  · rw [e1]; exact hq
theorem w_retI (X : Sd Z n0 kk code ml own nm (some .int) h p l e R s m args below meth c T locs cells slots) {z : Int32} (hd : Dc code pc .ireturn 1 pc') (hq : Q (some (.int z)) h) (hc : cells ≤ ce) (hs : slots ≤ sl) : Wp p e below (Po Z n0 s Q ce sl) (T.setTop (mkF m pc L (.int z :: S))) :=
  X.done nofun hq hc hs fun fs hr => retOut X.st X.hx X.hret rfl (Or.inl ⟨rfl, Or.inl rfl, z, rfl⟩) (X.hb hd.1) hr
theorem w_ret_boolean (X : Sd Z n0 kk code ml own nm (some .boolean) h p l e R s m args below meth c T locs cells slots) {z : Int32} (z' : Int32) (hz : nar .boolean z = z') (hd : Dc code pc .ireturn 1 pc') (hq : Q (some (.int z')) h) (hc : cells ≤ ce) (hs : slots ≤ sl) : Wp p e below (Po Z n0 s Q ce sl) (T.setTop (mkF m pc L (.int z :: S))) := by
  subst hz
  exact X.done nofun hq hc hs fun fs hr => retN X.st X.hx X.hret (by simp) (X.hb hd.1) hr
theorem w_retJ (X : Sd Z n0 kk code ml own nm (some .long) h p l e R s m args below meth c T locs cells slots) {z : Int64} (hd : Dc code pc .lreturn 1 pc') (hq : Q (some (.long z)) h) (hc : cells ≤ ce) (hs : slots ≤ sl) : Wp p e below (Po Z n0 s Q ce sl) (T.setTop (mkF m pc L (.long z :: S))) :=
  X.done nofun hq hc hs fun fs hr => retOut X.st X.hx X.hret rfl (Or.inr (Or.inl ⟨rfl, rfl, z, rfl⟩)) (X.hb hd.1) hr
theorem w_retR (X : Sd Z n0 kk code ml own nm ret h p l e R s m args below meth c T locs cells slots) {t : FieldType} {z : Value} (ht : t.isReference = true) (hz : z.isRef = true) (hret : ret = some t) (hd : Dc code pc .areturn 1 pc') (hq : Q (some z) h) (hc : cells ≤ ce) (hs : slots ≤ sl) : Wp p e below (Po Z n0 s Q ce sl) (T.setTop (mkF m pc L (z :: S))) := by
  subst hret
  exact X.done nofun hq hc hs fun fs hr => retOut X.st X.hx X.hret (by rcases ref_cases hz with rfl | ⟨z, rfl⟩ <;> cases t <;> first | rfl | cases ht) (Or.inr (Or.inr (Or.inr (Or.inr ⟨rfl, ht, hz⟩)))) (X.hb hd.1) hr
theorem w_retV (X : Sd Z n0 kk code ml own nm (none) h p l e R s m args below meth c T locs cells slots) (hd : Dc code pc .return_ 1 pc') (hq : Q none h) (hc : cells ≤ ce) (hs : slots ≤ sl) : Wp p e below (Po Z n0 s Q ce sl) (T.setTop (mkF m pc L [])) :=
  X.done (fun _ => rfl) hq hc hs fun fs hr => X.st.returnOut X.hx X.hret (X.hb hd.1) hr
theorem w_getF (X : Sd Z n0 kk code ml own nm ret h p l e R s m args below meth c T locs cells slots) {R0 O n d host : String} {index : Nat} {a : Addr} {v : Value} (hd : Dc code pc (.getfield index) 3 pc') (w : (Cond.fieldLink own index R0 n d).before a0 Z = true ∨ (Cond.fieldLinkNest own index R0 n d host).before a0 Z = true) (via : Via Z R0 O n d) (F : Fld Z h a O n d v) (K : ∀ T', Sd Z n0 kk code ml own nm ret h p l e R s m args below meth c T' locs cells slots → Wp p e below P (T'.setTop (mkF m pc' L (v :: S)))) : Wp p e below P (T.setTop (mkF m pc L (.ref a :: S))) := by
  obtain ⟨hd, rfl⟩ := hd
  obtain ⟨T', X', e', st⟩ := getF X.st X.hx X.hZ X.hown w via X.eh F (g := mkF m pc L (.ref a :: S)) rfl rfl (X.hb hd)
  exact Wp.of st (K T' (X.mk' X' e' X.fr X.old (Nat.le_refl _)))
theorem w_getS (X : Sd Z n0 kk code ml own nm ret h p l e R s m args below meth c T locs cells slots) {R0 O n d host : String} {index : Nat} {v : Value} (hd : Dc code pc (.getstatic index) 3 pc') (w : (Cond.fieldLink own index R0 n d).before a0 Z = true ∨ (Cond.fieldLinkNest own index R0 n d host).before a0 Z = true) (via : Via Z R0 O n d) (F : Sta Z h O n d v) (K : ∀ T', Sd Z n0 kk code ml own nm ret h p l e R s m args below meth c T' locs cells slots → Wp p e below P (T'.setTop (mkF m pc' L (v :: S)))) : Wp p e below P (T.setTop (mkF m pc L S)) := by
  obtain ⟨hd, rfl⟩ := hd
  obtain ⟨T', X', e', st⟩ := getS2 X.st X.hx X.hZ X.hown w via X.eh F (g := mkF m pc L S) rfl (X.hb hd)
  exact Wp.of st (K T' (X.mk' X' e' X.fr X.old (Nat.le_refl _)))
theorem w_putF (X : Sd Z n0 kk code ml own nm ret h p l e R s m args below meth c T locs cells slots) {R0 O n d host C : String} {index ni : Nat} {ty : FieldType} {a : Addr} {v old : Value} (hd : Dc code pc (.putfield index) 3 pc')  (w : (Cond.fieldLink own index R0 n d).before a0 Z = true ∨ (Cond.fieldLinkNest own index R0 n d host).before a0 Z = true) (via : Via Z R0 O n d) (F : Fld Z h a O n d old) (E : Exa Z h a C) (L0 : (Cond.lays C O n d).before a0 Z = true ∨ ((Cond.laysFinal C O n d).before a0 Z = true ∧ own = O ∧ nm = "<init>")) (wi : (Cond.instantiable C ni).before a0 Z = true) (hty : parseFieldDescriptor d = some ty) (hn : narrow ty v = v) (hf : fits ty v = true) (ga : n0 ≤ a) (K : ∀ T' h', Sd Z n0 kk code ml own nm ret h' p l e R s m args below meth c T' (locs ++ [⟨a, slotOf Z O n d⟩]) cells slots → Wr h h' a (slotOf Z O n d) v → Wp p e below P (T'.setTop (mkF m pc' L S))) : Wp p e below P (T.setTop (mkF m pc L (v :: .ref a :: S))) := by
  obtain ⟨hd, rfl⟩ := hd
  obtain ⟨T', h', X', e', W, st⟩ := putF X.st X.hx X.hZ X.hown w via X.eh F E (L0.imp id fun q => ⟨q.1, q.2.1, X.hnm.trans q.2.2⟩) wi hty hn hf (g := mkF m pc L (v :: .ref a :: S)) rfl rfl (X.hb hd)
  exact Wp.of st (K T' h' (X.mk' X' e' (Fr.snoc X' X.fr ga) (X.old.wr W ga) (Nat.le_of_eq W.size.symm)) W)
theorem w_putFN (X : Sd Z n0 kk code ml own nm ret h p l e R s m args below meth c T locs cells slots) {R0 O n d C : String} {index ni : Nat} {ty : FieldType} {a : Addr} {v old : Value} (hd : Dc code pc (.putfield index) 3 pc')  (w : (Cond.fieldLink own index R0 n d).before a0 Z = true) (via : Via Z R0 O n d) (F : Fld Z h a O n d old) (E : Exa Z h a C) (L0 : (Cond.lays C O n d).before a0 Z = true ∨ ((Cond.laysFinal C O n d).before a0 Z = true ∧ own = O ∧ nm = "<init>")) (wi : (Cond.instantiable C ni).before a0 Z = true) (hty : parseFieldDescriptor d = some ty) (v' : Value) (hn : narrow ty v = v') (hf : fits ty v' = true) (ga : n0 ≤ a) (K : ∀ T' h', Sd Z n0 kk code ml own nm ret h' p l e R s m args below meth c T' (locs ++ [⟨a, slotOf Z O n d⟩]) cells slots → Wr h h' a (slotOf Z O n d) v' → Wp p e below P (T'.setTop (mkF m pc' L S))) : Wp p e below P (T.setTop (mkF m pc L (v :: .ref a :: S))) := by
  obtain ⟨hd, rfl⟩ := hd
  obtain ⟨T', h', X', e', W, st⟩ := putFN X.st X.hx X.hZ X.hown w via X.eh F E (L0.imp id fun q => ⟨q.1, q.2.1, X.hnm.trans q.2.2⟩) wi hty hn hf (g := mkF m pc L (v :: .ref a :: S)) rfl rfl (X.hb hd)
  exact Wp.of st (K T' h' (X.mk' X' e' (Fr.snoc X' X.fr ga) (X.old.wr W ga) (Nat.le_of_eq W.size.symm)) W)
theorem w_new (X : Sd Z n0 kk code ml own nm ret h p l e R s m args below meth c T locs cells slots) {C : String} {index n : Nat} (hd : Dc code pc (.new index) 3 pc') (w1 : (Cond.classLink own index C).before a0 Z = true) (wi : (Cond.instantiable C n).before a0 Z = true) (wz : (Cond.initialized C).before a0 Z = true) (hc : cells + 1 ≤ R.cells) (hl : slots + n ≤ R.slots) (K : ∀ T' h' b, b = h.size → n0 ≤ b → Sd Z n0 kk code ml own nm ret h' p l e R s m args below meth c T' locs (cells + 1) (slots + n) → Ext h h' → Exa Z h' b C → (∀ {O nm' d : String} {ty : FieldType}, Laid Z a0 C O nm' d → parseFieldDescriptor d = some ty → Fld Z h' b O nm' d (defaultValue ty)) → Wp p e below P (T'.setTop (mkF m pc' L (.ref b :: S)))) : Wp p e below P (T.setTop (mkF m pc L S)) := by
  obtain ⟨hd, rfl⟩ := hd
  obtain ⟨T', h', X', e', E, A, D, -, st⟩ := newO X.st X.hx X.hZ X.hown w1 wi wz X.eh (g := mkF m pc L S) rfl (X.hb hd) hc hl
  exact Wp.of st (K T' h' _ rfl (X.old.1 ▸ X.old.2.1) (X.mk' X' e' X.fr (X.old.ext E) E.1) E A D)
theorem w_initO (X : Sd Z n0 kk code ml own nm ret h p l e R s m args below meth c T locs cells slots) {index : Nat} {a : Addr} (hd : Dc code pc (.invokespecial index) 3 pc') (w1 : (Cond.methodLink own index Lib.objectInit).before a0 Z = true) (w2 : (Cond.instanceMethod Lib.objectInit).before a0 Z = true) (w3 : (Cond.code Lib.objectInit ⟨#[0xb1]⟩ 1 none).before a0 Z = true) (hsz : L.size = ml) (hf : 1 ≤ R.frames) (hl : (S.map fun v => v.category).sum + 12 ≤ R.locals) (K : ∀ T', Sd Z n0 kk code ml own nm ret h p l e R s m args below meth c T' locs cells slots → Wp p e below P (T'.setTop (mkF m pc' L S))) : Wp p e below P (T.setTop (mkF m pc L (.ref a :: S))) := by
  obtain ⟨hd, rfl⟩ := hd
  obtain ⟨T', X', e', st⟩ := initO X.st X.hx X.hZ X.hown w1 w2 w3 X.eh (g := mkF m pc L (.ref a :: S)) rfl (by rw [X.hml]; exact hsz) rfl (X.hb hd) hf (W := (S.map fun v => v.category).sum) (by show 2 * 0 + _ ≤ _; omega) hl
  exact Wp.of st (K T' (X.mk' X' e' X.fr X.old (Nat.le_refl _)))
theorem w_callS (X : Sd Z n0 kk code ml own nm ret h p l e R s m args below meth c T locs cells slots) {y : MethodName} {bytes : ByteArray} {maxL : Nat} {ret' : Option FieldType} {rm : Room} {index : Nat} {Q' : Option Value → Heap → Prop} {ps : List FieldType} {rr : Option FieldType} {stk : List Value} (hd : Dc code pc (.invokestatic index) 3 pc') (w1 : (Cond.methodLink own index y).before a0 Z = true) (w2 : (Cond.static y).before a0 Z = true) (w3 : (Cond.initialized y.cls).before a0 Z = true) (w4 : (Cond.code y bytes maxL ret').before a0 Z = true) (hy : y.cls ≠ "java/lang/invoke/MethodHandle" ∧ y.cls ≠ "java/lang/invoke/VarHandle") {argsL : List Value} (D : Does l Z n0 y bytes maxL ret' [] rm argsL.toArray h Q') (hpd : parseMethodDescriptor y.desc = some ⟨ps, rr⟩) (hlen : argsL.length = ps.length) (hst : stk = argsL.reverse ++ S) (hsz : L.size = ml) (hf : rm.frames + 1 ≤ R.frames) (hl : (S.map fun v => v.category).sum + (maxL + 11) + rm.locals ≤ R.locals) (hc : cells + rm.cells ≤ R.cells) (hs : slots + rm.slots ≤ R.slots) (K : ∀ T' h' v L', Sd Z n0 kk code ml own nm ret h' p l e R s m args below meth c T' (locs ++ L') (cells + rm.cells) (slots + rm.slots) → Q' v h' → Wp p e below P (T'.setTop (mkF m pc' L (v.toList ++ S)))) : Wp p e below P (T.setTop (mkF m pc L stk)) := by
  obtain ⟨hd, rfl⟩ := hd
  obtain ⟨v, vm1, ⟨T', L1, k1, n1⟩, -, X', ⟨Lc, hQ, l1, y1, z1⟩, st⟩ := Jvm.LawKit.callS X.st X.hx X.hown (mvT X.hZ w1) (mvT X.hZ w2) (mvT X.hZ w3) (mvT X.hZ w4) hy (backOf (Q := fun v h' L => Fr n0 L ∧ Old Z n0 h' ∧ h.size ≤ h'.size ∧ Q' v h') (W := (S.map fun v => v.category).sum) (D X.old) X.hZ w4 w3 hf hl) (g := mkF m pc L stk) rfl (by rw [X.hml]; exact hsz) (argsL := argsL) (rest := S) (lenOf hpd hlen) hst (by show 2 * 0 + _ ≤ _; omega) (X.hb hd) (fun _ _ => ⟨rfl, X.eh, hc, hs⟩)
  dsimp only [Pt.U, Pt.locs, Pt.cells, Pt.slots] at X' l1 y1 z1 st hQ
  subst l1 y1 z1
  exact Wp.of st (K T' _ v Lc (X.mk' X' rfl (X.fr.app hQ.1) hQ.2.1 hQ.2.2.1) hQ.2.2.2)
theorem w_callI (X : Sd Z n0 kk code ml own nm ret h p l e R s m args below meth c T locs cells slots) {y : MethodName} {bytes : ByteArray} {maxL : Nat} {rm : Room} {index : Nat} {Q' : Option Value → Heap → Prop} {ps : List FieldType} {rr : Option FieldType} {stk : List Value} (hd : Dc code pc (.invokespecial index) 3 pc') (hi : y.name = "<init>") (w1 : (Cond.methodLink own index y).before a0 Z = true) (w2 : (Cond.instanceMethod y).before a0 Z = true) (w3 : (Cond.initialized y.cls).before a0 Z = true) (w4 : (Cond.code y bytes maxL none).before a0 Z = true) (hy : y.cls ≠ "java/lang/invoke/MethodHandle" ∧ y.cls ≠ "java/lang/invoke/VarHandle") {a : Addr} {argsL : List Value} (D : Does l Z n0 y bytes maxL none [] rm (.ref a :: argsL).toArray h Q') (hpd : parseMethodDescriptor y.desc = some ⟨ps, rr⟩) (hlen : argsL.length = ps.length) (hst : stk = argsL.reverse ++ .ref a :: S) (hsz : L.size = ml) (hf : rm.frames + 1 ≤ R.frames) (hl : (S.map fun v => v.category).sum + (maxL + 11) + rm.locals ≤ R.locals) (hc : cells + rm.cells ≤ R.cells) (hs : slots + rm.slots ≤ R.slots) (K : ∀ T' h' v L', Sd Z n0 kk code ml own nm ret h' p l e R s m args below meth c T' (locs ++ L') (cells + rm.cells) (slots + rm.slots) → Q' v h' → Wp p e below P (T'.setTop (mkF m pc' L (v.toList ++ S)))) : Wp p e below P (T.setTop (mkF m pc L stk)) := by
  obtain ⟨hd, rfl⟩ := hd
  obtain ⟨v, vm1, ⟨T', L1, k1, n1⟩, -, X', ⟨Lc, hQ, l1, y1, z1⟩, st⟩ := X.st.specialBack X.hx hi X.hown (mvT X.hZ w1) (mvT X.hZ w2) (mvT X.hZ w4) hy (backOf (Q := fun v h' L => Fr n0 L ∧ Old Z n0 h' ∧ h.size ≤ h'.size ∧ Q' v h') (W := (S.map fun v => v.category).sum) (D X.old) X.hZ w4 w3 hf hl) (g := mkF m pc L stk) rfl (by rw [X.hml]; exact hsz) (Steps.refl _) (a := a) (argsL := argsL) (rest := S) (lenOf hpd hlen) hst (by show 2 * 0 + _ ≤ _; omega) (X.hb hd) (fun _ _ => ⟨rfl, X.eh, hc, hs⟩)
  dsimp only [Pt.U, Pt.locs, Pt.cells, Pt.slots] at X' l1 y1 z1 st hQ
  subst l1 y1 z1
  exact Wp.tr st (K T' _ v Lc (X.mk' X' rfl (X.fr.app hQ.1) hQ.2.1 hQ.2.2.1) hQ.2.2.2)
theorem w_callV (X : Sd Z n0 kk code ml own nm ret h p l e R s m args below meth c T locs cells slots) {y : MethodName} {bytes : ByteArray} {maxL : Nat} {ret' : Option FieldType} {rm : Room} {index : Nat} {Q' : Option Value → Heap → Prop} {ps : List FieldType} {rr : Option FieldType} {stk : List Value} {z : MethodName} {C : String} (hd : Dc code pc (.invokevirtual index) 3 pc') (w1 : (Cond.methodLink own index y).before a0 Z = true) (wd : (Cond.declares y).before a0 Z = true) (hnf : NotFace s y) (ws : (Cond.selects C y z).before a0 Z = true) (w2 : (Cond.instanceMethod z).before a0 Z = true) (w3 : (Cond.initialized z.cls).before a0 Z = true) (w4 : (Cond.code z bytes maxL ret').before a0 Z = true) (hy : y.cls ≠ "java/lang/invoke/MethodHandle" ∧ y.cls ≠ "java/lang/invoke/VarHandle") {a : Addr} (E : Exa Z h a C) {argsL : List Value} (D : Does l Z n0 z bytes maxL ret' [] rm (.ref a :: argsL).toArray h Q') (hpd : parseMethodDescriptor y.desc = some ⟨ps, rr⟩) (hlen : argsL.length = ps.length) (hst : stk = argsL.reverse ++ .ref a :: S) (hsz : L.size = ml) (hf : rm.frames + 1 ≤ R.frames) (hl : (S.map fun v => v.category).sum + (maxL + 11) + rm.locals ≤ R.locals) (hc : cells + rm.cells ≤ R.cells) (hs : slots + rm.slots ≤ R.slots) (K : ∀ T' h' v L', Sd Z n0 kk code ml own nm ret h' p l e R s m args below meth c T' (locs ++ L') (cells + rm.cells) (slots + rm.slots) → Q' v h' → Wp p e below P (T'.setTop (mkF m pc' L (v.toList ++ S)))) : Wp p e below P (T.setTop (mkF m pc L stk)) := by
  obtain ⟨hd, rfl⟩ := hd
  obtain ⟨cq, kq, qa, qb, qc⟩ := isOf X.hZ X.eh E
  obtain ⟨v, vm1, ⟨T', L1, k1, n1⟩, -, X', ⟨Lc, hQ, l1, y1, z1⟩, st⟩ := X.st.virtualBack X.hx X.hown (mvT X.hZ w1) (mvT X.hZ wd) hnf (mvT X.hZ ws) (mvT X.hZ w2) hy (backOf (Q := fun v h' L => Fr n0 L ∧ Old Z n0 h' ∧ h.size ≤ h'.size ∧ Q' v h') (W := (S.map fun v => v.category).sum) (D X.old) X.hZ w4 w3 hf hl) qa qc (g := mkF m pc L stk) rfl (by rw [X.hml]; exact hsz) (Steps.refl _) (argsL := argsL) (rest := S) (lenOf hpd hlen) hst (by show 2 * 0 + _ ≤ _; omega) (X.hb hd) (fun _ _ => ⟨rfl, X.eh, hc, hs⟩)
  dsimp only [Pt.U, Pt.locs, Pt.cells, Pt.slots] at X' l1 y1 z1 st hQ
  subst l1 y1 z1
  exact Wp.tr st (K T' _ v Lc (X.mk' X' rfl (X.fr.app hQ.1) hQ.2.1 hQ.2.2.1) hQ.2.2.2)
theorem w_callP (X : Sd Z n0 kk code ml own nm ret h p l e R s m args below meth c T locs cells slots) {y : MethodName} {bytes : ByteArray} {maxL : Nat} {ret' : Option FieldType} {rm : Room} {index : Nat} {Q' : Option Value → Heap → Prop} {ps : List FieldType} {rr : Option FieldType} {stk : List Value} (hd : Dc code pc (.invokevirtual index) 3 pc') (w1 : (Cond.methodLink own index y).before a0 Z = true) (w2 : (Cond.instanceMethod y).before a0 Z = true) (ws : (Cond.selects y.cls y y).before a0 Z = true) (wp : (Cond.privateMethod y).before a0 Z = true) (w3 : (Cond.initialized y.cls).before a0 Z = true) (w4 : (Cond.code y bytes maxL ret').before a0 Z = true) (hy : y.cls ≠ "java/lang/invoke/MethodHandle" ∧ y.cls ≠ "java/lang/invoke/VarHandle") {a : Addr} {C : String} (E : Exa Z h a C) {argsL : List Value} (D : Does l Z n0 y bytes maxL ret' [] rm (.ref a :: argsL).toArray h Q') (hpd : parseMethodDescriptor y.desc = some ⟨ps, rr⟩) (hlen : argsL.length = ps.length) (hst : stk = argsL.reverse ++ .ref a :: S) (hsz : L.size = ml) (hf : rm.frames + 1 ≤ R.frames) (hl : (S.map fun v => v.category).sum + (maxL + 11) + rm.locals ≤ R.locals) (hc : cells + rm.cells ≤ R.cells) (hs : slots + rm.slots ≤ R.slots) (K : ∀ T' h' v L', Sd Z n0 kk code ml own nm ret h' p l e R s m args below meth c T' (locs ++ L') (cells + rm.cells) (slots + rm.slots) → Q' v h' → Wp p e below P (T'.setTop (mkF m pc' L (v.toList ++ S)))) : Wp p e below P (T.setTop (mkF m pc L stk)) := by
  obtain ⟨hd, rfl⟩ := hd
  obtain ⟨cq, qa, qb⟩ := E.cell
  obtain ⟨v, vm1, ⟨T', L1, k1, n1⟩, -, X', ⟨Lc, hQ, l1, y1, z1⟩, st⟩ := X.st.privateBack X.hx X.hown (mvT X.hZ w1) (mvT X.hZ w2) (mvT X.hZ ws) (Cond.privateMethod_at (mvP X.hZ wp (args := #[]))) (mvT X.hZ w4) hy (backOf (Q := fun v h' L => Fr n0 L ∧ Old Z n0 h' ∧ h.size ≤ h'.size ∧ Q' v h') (W := (S.map fun v => v.category).sum) (D X.old) X.hZ w4 w3 hf hl) (g := mkF m pc L stk) rfl (by rw [X.hml]; exact hsz) (Steps.refl _) (a := a) (by rw [X.eh]; exact qa) qb (argsL := argsL) (rest := S) (lenOf hpd hlen) hst (by show 2 * 0 + _ ≤ _; omega) (X.hb hd) (fun _ _ => ⟨rfl, X.eh, hc, hs⟩)
  dsimp only [Pt.U, Pt.locs, Pt.cells, Pt.slots] at X' l1 y1 z1 st hQ
  subst l1 y1 z1
  exact Wp.tr st (K T' _ v Lc (X.mk' X' rfl (X.fr.app hQ.1) hQ.2.1 hQ.2.2.1) hQ.2.2.2)
theorem w_callU (X : Sd Z n0 kk code ml own nm ret h p l e R s m args below meth c T locs cells slots) {y : MethodName} {bytes : ByteArray} {maxL : Nat} {ret' : Option FieldType} {rm : Room} {index : Nat} {Q' : Option Value → Heap → Prop} {ps : List FieldType} {rr : Option FieldType} {stk : List Value} {z : MethodName} {C owner : String} (hd : Dc code pc (.invokevirtual index) 3 pc') (w1 : (Cond.methodLink own index y).before a0 Z = true) (wsm : (Cond.sameMethod y.cls owner y.name y.desc).before a0 Z = true) (wd : (Cond.declares ⟨owner, y.name, y.desc⟩).before a0 Z = true) (ho : owner ≠ "java/lang/invoke/MethodHandle" ∧ owner ≠ "java/lang/invoke/VarHandle") (ws : (Cond.selects C y z).before a0 Z = true) (w2 : (Cond.instanceMethod z).before a0 Z = true) (w3 : (Cond.initialized z.cls).before a0 Z = true) (w4 : (Cond.code z bytes maxL ret').before a0 Z = true) {a : Addr} (E : Exa Z h a C) {argsL : List Value} (D : Does l Z n0 z bytes maxL ret' [] rm (.ref a :: argsL).toArray h Q') (hpd : parseMethodDescriptor y.desc = some ⟨ps, rr⟩) (hlen : argsL.length = ps.length) (hst : stk = argsL.reverse ++ .ref a :: S) (hsz : L.size = ml) (hf : rm.frames + 1 ≤ R.frames) (hl : (S.map fun v => v.category).sum + (maxL + 11) + rm.locals ≤ R.locals) (hc : cells + rm.cells ≤ R.cells) (hs : slots + rm.slots ≤ R.slots) (K : ∀ T' h' v L', Sd Z n0 kk code ml own nm ret h' p l e R s m args below meth c T' (locs ++ L') (cells + rm.cells) (slots + rm.slots) → Q' v h' → Wp p e below P (T'.setTop (mkF m pc' L (v.toList ++ S)))) : Wp p e below P (T.setTop (mkF m pc L stk)) := by
  obtain ⟨hd, rfl⟩ := hd
  obtain ⟨cq, kq, qa, qb, qc⟩ := isOf X.hZ X.eh E
  obtain ⟨v, vm1, ⟨T', L1, k1, n1⟩, -, X', ⟨Lc, hQ, l1, y1, z1⟩, st⟩ := X.st.virtualBackUp X.hx X.hown (mvT X.hZ w1) (mvT X.hZ wsm) (mvT X.hZ wd) ho (mvT X.hZ ws) (mvT X.hZ w2) (backOf (Q := fun v h' L => Fr n0 L ∧ Old Z n0 h' ∧ h.size ≤ h'.size ∧ Q' v h') (W := (S.map fun v => v.category).sum) (D X.old) X.hZ w4 w3 hf hl) qa qc (g := mkF m pc L stk) rfl (by rw [X.hml]; exact hsz) (Steps.refl _) (argsL := argsL) (rest := S) (lenOf hpd hlen) hst (by show 2 * 0 + _ ≤ _; omega) (X.hb hd) (fun _ _ => ⟨rfl, X.eh, hc, hs⟩)
  dsimp only [Pt.U, Pt.locs, Pt.cells, Pt.slots] at X' l1 y1 z1 st hQ
  subst l1 y1 z1
  exact Wp.tr st (K T' _ v Lc (X.mk' X' rfl (X.fr.app hQ.1) hQ.2.1 hQ.2.2.1) hQ.2.2.2)
end Steps2
end Jvm.RoadKit
namespace Jvm.RoadKit
open Sem ClassFile Op Lib Jvm.Stand Jvm.Free Jvm.LawKit
/-- at a lies an array of component type ty that holds just these values -/
def Ary (Z : State) (h : Heap) (a : Addr) (ty : FieldType) (vs : List Value) : Prop := ∃ c : Cell, Arr Z h a c ty ∧ c.slots = vs.toArray ∧ vs.length < 2 ^ 31 ∧ ∀ v ∈ vs, fits ty v = true
section Ary
variable {Z : State} {h h' : Heap} {a b : Addr} {ty : FieldType} {vs : List Value} {sl : Nat} {v : Value} {ws : List Addr}
theorem Ary.lt (A : Ary Z h a ty vs) : a < h.size := by obtain ⟨c, A, -⟩ := A; exact A.lt
theorem Ary.ext (A : Ary Z h a ty vs) (E : Ext h h') : Ary Z h' a ty vs := by obtain ⟨c, A, r⟩ := A; exact ⟨c, A.ext E, r⟩
theorem Ary.other (A : Ary Z h b ty vs) (W : Wr h h' a sl v) (q : b ≠ a) : Ary Z h' b ty vs := by obtain ⟨c, A, r⟩ := A; exact ⟨c, A.other W q, r⟩
theorem Ary.keep (A : Ary Z h a ty vs) (K : Keep h h' ws) (q : a ∉ ws) : Ary Z h' a ty vs := by obtain ⟨c, A, r⟩ := A; exact ⟨c, ⟨K.2.1 a c A.1 q, A.2⟩, r⟩
theorem Ary.size {c : Cell} (e : c.slots = vs.toArray) : c.slots.size = vs.length := by rw [e]; simp
theorem own_at {c : Cell} {j : Nat} (e : c.slots = vs.toArray) (hv : vs[j]? = some v) : c.slots[j]? = some v := by rw [e]; simpa using hv
theorem Ary.new {cA : ClassId} {n : Int32} {k : Nat} (A : Arr Z h a (newA cA ty n) ty) (hk : n.toNatClampNeg = k) (hd : fits ty (defaultValue ty) = true) : Ary Z h a ty (List.replicate k (defaultValue ty)) := by
  refine ⟨_, A, ?_, ?_, fun v hv => by rw [(List.mem_replicate.mp hv).2]; exact hd⟩
  · show Array.replicate n.toNatClampNeg (defaultValue ty) = _
    rw [hk]; simp
  · rw [List.length_replicate, ← hk]; have := Int32.toInt_lt n; simp only [Int32.toNatClampNeg]; omega
end Ary
section StepsA
variable {Z : State} {n0 kk : Nat} {code : ByteArray} {ml : Nat} {own nm : String} {ret : Option FieldType} {h : Heap} {p : Program} {l : Launch} {e : Env} {R : Room} {s : State} {m : MethodId} {args : Array Value} {below : List Frame} {meth : Method} {c : Code} {T : State} {locs : List Loc} {cells slots : Nat} {P : State → Outcome → Prop} {a0 : Array Value} {pc pc' : Nat} {L : Array Slot} {S : List Value}
theorem w_cast (X : Sd Z n0 kk code ml own nm ret h p l e R s m args below meth c T locs cells slots) {K0 : String} {index : Nat} {a : Addr} (hd : Dc code pc (.checkcast index) 3 pc') (w : (Cond.classLink own index K0).before a0 Z = true) (F : Ins Z h a K0 true) (K : ∀ T', Sd Z n0 kk code ml own nm ret h p l e R s m args below meth c T' locs cells slots → Wp p e below P (T'.setTop (mkF m pc' L (.ref a :: S)))) : Wp p e below P (T.setTop (mkF m pc L (.ref a :: S))) := by
  obtain ⟨hd, rfl⟩ := hd
  obtain ⟨T', X', e', st⟩ := castY X.st X.hx X.hZ X.hown w X.eh F (g := mkF m pc L (.ref a :: S)) rfl rfl (X.hb hd)
  exact Wp.of st (K T' (X.mk' X' e' X.fr X.old (Nat.le_refl _)))
end StepsA
end Jvm.RoadKit
namespace Jvm.RoadKit
open Sem ClassFile Op Lib Jvm.Stand Jvm.Free Jvm.LawKit
def PoW (Z : State) (n0 : Nat) (s : State) (Q : Option Value → Heap → Prop) (ce sl : Nat) : State → Outcome → Prop := fun U o => ∃ v L, o = .returned v ∧ (Fr n0 L ∧ Old Z n0 U.heap ∧ s.heap.size ≤ U.heap.size ∧ Q v U.heap) ∧ ReturnedEndW s o U L ce sl
def DoesW (l : Launch) (Z : State) (n0 : Nat) (y : MethodName) (code : ByteArray) (ml : Nat) (ret : Option FieldType) (ws : List Cond) (rm : Room) (as' : Array Value) (h0 : Heap) (Q : Option Value → Heap → Prop) : Prop :=
  Old Z n0 h0 → MetFree l y (head1 (Cond.code y code ml ret :: ws) rm) (fun a U => a = as' ∧ Z.Warmed39 U.vm ∧ U.heap = h0) (fun _ _ _ _ _ => True) (fun _ U o U' => ∃ v L, o = .returned v ∧ (Fr n0 L ∧ Old Z n0 U'.heap ∧ h0.size ≤ U'.heap.size ∧ Q v U'.heap) ∧ ReturnedEndW U o U' L rm.cells rm.slots)
theorem DoesW.start {l : Launch} {Z : State} {n0 : Nat} {y : MethodName} {code : ByteArray} {ml : Nat} {ret : Option FieldType} {ws : List Cond} {rm : Room} {as' : Array Value} {h0 : Heap} {Q : Option Value → Heap → Prop} (hp : plainFor y = true)
    (body : ∀ p e s m below meth c s₁, Sd Z n0 0 code ml y.cls y.name ret h0 p l e rm (s.setVm s.vm) m as' below meth c s₁ [] 0 0 → s.Since s.vm 0 → s.heap = h0 → Wp p e below (PoW Z n0 s Q rm.cells rm.slots) (s₁.setTop (entryFrame m as' ml))) : DoesW l Z n0 y code ml ret ws rm as' h0 Q := by
  intro hold
  refine MetFree.of_bodySF hp hisR ?_
  intro p e s m args below meth c s₁ Bd hml0 hP hK
  obtain ⟨rfl, hZ, hh⟩ := hP
  have hh' := hh
  subst hh
  exact body p e s m below meth c s₁ ⟨Stand.of_body Bd, ⟨Bd.exec, Bd.bytes, hml0, findClass_of_methodNamed Bd.named, hZ, Bd.returns, (name_of_methodNamed Bd.named Bd.method).1, Bd.notSynchronized⟩, by rw [Bd.state]; rfl, Fr.nil n0, hold, Nat.zero_le _⟩ ((State.WarmedH.refl s).since 0) rfl
theorem DoesW.mono {l : Launch} {Z : State} {n0 : Nat} {y : MethodName} {code : ByteArray} {ml : Nat} {ret : Option FieldType} {ws : List Cond} {rm : Room} {as' : Array Value} {h0 : Heap} {Q Q' : Option Value → Heap → Prop} (D : DoesW l Z n0 y code ml ret ws rm as' h0 Q) (f : ∀ v h, Q v h → Q' v h) : DoesW l Z n0 y code ml ret ws rm as' h0 Q' := by
  intro hold p e ha hc hk s m args below hf happ hP hK
  obtain ⟨n, o, h1, h2, h3, v, L, e1, ⟨q1, q2, q2', q3⟩, q4⟩ := D hold p e ha hc hk s m args below hf happ hP hK
  exact ⟨n, o, h1, h2, h3, v, L, e1, ⟨q1, q2, q2', f _ _ q3⟩, q4⟩
/-- the law's own contract: at the start Z itself -/
def DoesL (l : Launch) (Z : State) (n0 : Nat) (y : MethodName) (code : ByteArray) (ml : Nat) (ret : Option FieldType) (ws : List Cond) (rm : Room) (as' : Array Value) (Q : Option Value → Heap → Prop) : Prop :=
  MetFree l y (head1 (Cond.code y code ml ret :: ws) rm) (fun a U => a = as' ∧ U = Z) (fun _ _ _ _ _ => True) (fun _ U o U' => ∃ v L, o = .returned v ∧ (Fr n0 L ∧ Old Z n0 U'.heap ∧ U.heap.size ≤ U'.heap.size ∧ Q v U'.heap) ∧ ReturnedEndW U o U' L rm.cells rm.slots)
theorem DoesL.start {l : Launch} {Z : State} {n0 : Nat} {y : MethodName} {code : ByteArray} {ml : Nat} {ret : Option FieldType} {ws : List Cond} {rm : Room} {as' : Array Value} {Q : Option Value → Heap → Prop} (hn0 : Z.heap.size = n0) (hp : plainFor y = true)
    (body : ∀ p e s m below meth c s₁, Sd Z n0 0 code ml y.cls y.name ret Z.heap p l e rm (s.setVm s.vm) m as' below meth c s₁ [] 0 0 → s.Since s.vm 0 → s = Z → Wp p e below (PoW Z n0 s Q rm.cells rm.slots) (s₁.setTop (entryFrame m as' ml))) : DoesL l Z n0 y code ml ret ws rm as' Q := by
  refine MetFree.of_bodySF hp hisR ?_
  intro p e s m args below meth c s₁ Bd hml0 hP hK
  obtain ⟨rfl, hh⟩ := hP
  have hh' := hh
  subst hh
  exact body p e s m below meth c s₁ ⟨Stand.of_body Bd, ⟨Bd.exec, Bd.bytes, hml0, findClass_of_methodNamed Bd.named, State.Warmed39.refl s, Bd.returns, (name_of_methodNamed Bd.named Bd.method).1, Bd.notSynchronized⟩, by rw [Bd.state]; rfl, Fr.nil n0, hn0 ▸ Old.start s, Nat.zero_le _⟩ ((State.WarmedH.refl s).since 0) rfl
section StepsW
variable {Z : State} {n0 kk : Nat} {code : ByteArray} {ml : Nat} {own nm : String} {ret : Option FieldType} {h : Heap} {p : Program} {l : Launch} {e : Env} {R : Room} {s : State} {m : MethodId} {args : Array Value} {below : List Frame} {meth : Method} {c : Code} {T : State} {locs : List Loc} {cells slots : Nat} {P : State → Outcome → Prop} {a0 : Array Value} {u : Vm} {pc pc' : Nat} {L : Array Slot} {S : List Value} {Q : Option Value → Heap → Prop} {ce sl : Nat}
theorem Sd.doneW (X : Sd Z n0 kk code ml own nm ret h p l e R (s.setVm u) m args below meth c T locs cells slots) (Y : s.Since u kk) {v : Option Value} (hv : ret = none → v = none) (hq : Q v h) (hc : cells ≤ ce) (hs : slots ≤ sl) {g : JFrame} (step : ∀ fs, (∀ (f : JFrame) (acts : List Action), f.method = m → f.locked = none → f.entered = [] → (doReturn e (T.setTop f) acts v).1 = T.setFrames fs) → Steps p.tables e below (T.setTop g) (T.setFrames fs)) : Wp p e below (PoW Z n0 s Q ce sl) (T.setTop g) := by
  obtain ⟨fs, hr, hrun, hended, hE⟩ := X.st.leaveW Y (by rw [X.eh]; exact X.hkk) (v := v) (fun q => hv (X.hret ▸ q)) X.hlk
  have e1 : (T.setFrames fs).heap = h := X.eh
  refine ⟨_, _, step fs hr, hrun, hended, v, locs, rfl, ⟨X.fr, ?_, X.st.same.2.1, ?_⟩, hE.1, hE.2.1, hE.2.2.1, hE.2.2.2.mono hc hs⟩
  · rw [e1]; exact X.old
  · rw [e1]; exact hq
theorem v_ret_boolean (X : Sd Z n0 kk code ml own nm (some .boolean) h p l e R (s.setVm u) m args below meth c T locs cells slots) (Y : s.Since u kk) {z : Int32} (z' : Int32) (hz : nar .boolean z = z') (hd : Dc code pc .ireturn 1 pc') (hq : Q (some (.int z')) h) (hc : cells ≤ ce) (hs : slots ≤ sl) : Wp p e below (PoW Z n0 s Q ce sl) (T.setTop (mkF m pc L (.int z :: S))) := by
  subst hz
  exact X.doneW Y nofun hq hc hs fun fs hr => retN X.st X.hx X.hret (by simp) (X.hb hd.1) hr
end StepsW
end Jvm.RoadKit
namespace Jvm.RoadKit
open Sem ClassFile Op Lib Jvm.Stand Jvm.Free Jvm.LawKit
theorem Does.startN {l : Launch} {Z : State} {n0 : Nat} {y : MethodName} {code : ByteArray} {ml : Nat} {ret : Option FieldType} {ws : List Cond} {rm : Room} {as' : Array Value} {h0 : Heap} {Q : Option Value → Heap → Prop} (hp : plainFor y = true)
    (body : ∀ p e s m below meth c s₁, s.methodNamed? y = some m → Sd Z n0 0 code ml y.cls y.name ret h0 p l e rm s m as' below meth c s₁ [] 0 0 → Wp p e below (Po Z n0 s Q rm.cells rm.slots) (s₁.setTop (entryFrame m as' ml))) : Does l Z n0 y code ml ret ws rm as' h0 Q := by
  intro hold
  refine MetFree.of_bodySF hp hisR ?_
  intro p e s m args below meth c s₁ Bd hml0 hP hK
  obtain ⟨rfl, hZ, hh⟩ := hP
  have hh' := hh
  subst hh
  exact body p e s m below meth c s₁ Bd.named ⟨Stand.of_body Bd, ⟨Bd.exec, Bd.bytes, hml0, findClass_of_methodNamed Bd.named, hZ, Bd.returns, (name_of_methodNamed Bd.named Bd.method).1, Bd.notSynchronized⟩, by rw [Bd.state]; rfl, Fr.nil n0, hold, Nat.zero_le _⟩
section StepsR
variable {Z : State} {n0 kk : Nat} {code : ByteArray} {ml : Nat} {own nm : String} {ret : Option FieldType} {h : Heap} {p : Program} {l : Launch} {e : Env} {R : Room} {s : State} {m : MethodId} {args : Array Value} {below : List Frame} {meth : Method} {c : Code} {T : State} {locs : List Loc} {cells slots : Nat} {P : State → Outcome → Prop} {a0 : Array Value} {pc pc' : Nat} {L : Array Slot} {S : List Value}
theorem w_callN (X : Sd Z n0 kk code ml own nm ret h p l e R s m args below meth c T locs cells slots) {y : MethodName} {bytes : ByteArray} {maxL : Nat} {ret' : Option FieldType} {rm : Room} {index : Nat} {Q' : Option Value → Heap → Prop} {ps : List FieldType} {rr : Option FieldType} {stk : List Value} {z : MethodName} {C : String} {count : Nat} (hd : Dc code pc (.invokeinterface index count) 5 pc') (w1 : (Cond.methodLink own index y).before a0 Z = true) (wd : (Cond.declares y).before a0 Z = true) (wf : (Cond.interfaceMethod y.cls y.cls y.name y.desc).before a0 Z = true) (ws : (Cond.selects C y z).before a0 Z = true) (w2 : (Cond.instanceMethod z).before a0 Z = true) (wb : (Cond.publicMethod z).before a0 Z = true) (wu : (Cond.unhidden C y.name y.desc).before a0 Z = true) (wc : (Cond.castable C y.cls).before a0 Z = true) (w3 : (Cond.initialized z.cls).before a0 Z = true) (w4 : (Cond.code z bytes maxL ret').before a0 Z = true) (hy : y.cls ≠ "java/lang/invoke/MethodHandle" ∧ y.cls ≠ "java/lang/invoke/VarHandle") {a : Addr} (E : Exa Z h a C) {argsL : List Value} (D : Does l Z n0 z bytes maxL ret' [] rm (.ref a :: argsL).toArray h Q') (hpd : parseMethodDescriptor y.desc = some ⟨ps, rr⟩) (hlen : argsL.length = ps.length) (hst : stk = argsL.reverse ++ .ref a :: S) (hsz : L.size = ml) (hf : rm.frames + 1 ≤ R.frames) (hl : (S.map fun v => v.category).sum + (maxL + 11) + rm.locals ≤ R.locals) (hc : cells + rm.cells ≤ R.cells) (hs : slots + rm.slots ≤ R.slots) (K : ∀ T' h' v L', Sd Z n0 kk code ml own nm ret h' p l e R s m args below meth c T' (locs ++ L') (cells + rm.cells) (slots + rm.slots) → Q' v h' → Wp p e below P (T'.setTop (mkF m pc' L (v.toList ++ S)))) : Wp p e below P (T.setTop (mkF m pc L stk)) := by
  obtain ⟨hd, rfl⟩ := hd
  obtain ⟨cq, kq, qa, qb, qc⟩ := isOf X.hZ X.eh E
  obtain ⟨v, vm1, ⟨T', L1, k1, n1⟩, -, X', ⟨Lc, hQ, l1, y1, z1⟩, st⟩ := X.st.interfaceBack X.hx X.hown (mvT X.hZ w1) (mvT X.hZ wd) (mvT X.hZ wf (by simp [Cond.onTables, Cond.keepsFace, Cond.keeps, Cond.steady, Cond.faceAtom, hy.1, hy.2])) (mvT X.hZ ws) (mvT X.hZ w2) (mvT X.hZ wb) (mvT X.hZ wu) (mvT X.hZ wc) hy (backOf (Q := fun v h' L => Fr n0 L ∧ Old Z n0 h' ∧ h.size ≤ h'.size ∧ Q' v h') (W := (S.map fun v => v.category).sum) (D X.old) X.hZ w4 w3 hf hl) qa qb qc (g := mkF m pc L stk) rfl (by rw [X.hml]; exact hsz) (Steps.refl _) (argsL := argsL) (rest := S) (lenOf hpd hlen) hst (by show 2 * 0 + _ ≤ _; omega) (X.hb hd) (fun _ _ => ⟨rfl, X.eh, hc, hs⟩)
  dsimp only [Pt.U, Pt.locs, Pt.cells, Pt.slots] at X' l1 y1 z1 st hQ
  subst l1 y1 z1
  exact Wp.tr st (K T' _ v Lc (X.mk' X' rfl (X.fr.app hQ.1) hQ.2.1 hQ.2.2.1) hQ.2.2.2)
theorem w_getFR (X : Sd Z n0 kk code ml own nm ret h p l e R s m args below meth c T locs cells slots) {O n d : String} {index : Nat} {a : Addr} {v : Value} (hd : Dc code pc (.getfield index) 3 pc') (w : (Cond.fieldRef own index O n d).before a0 Z = true) (F : Fld Z h a O n d v) (K : Wp p e below P (T.setTop (mkF m pc' L (v :: S)))) : Wp p e below P (T.setTop (mkF m pc L (.ref a :: S))) := by
  obtain ⟨hd, rfl⟩ := hd
  have hT : Z.Warmed39 T.vm := wtrans X.hZ X.st.warmed
  obtain ⟨cell, cf, k, i, f, h1, h2, h3, h4, -, -, h7⟩ := F
  have hc : (Z.setVm T.vm).vm.findClass own = some m.cls := by
    show T.vm.findClass own = some m.cls
    rw [X.st.warmed.alike.findClass]; exact X.hown
  obtain ⟨c', k', i', f', q1, q2⟩ := Cond.fieldRef_spec hc (Cond.fieldRef_warmed39 hT w)
  obtain ⟨k2, q3, -⟩ := State.fieldFound?_setVm (s := Z) hT.alike h2
  cases q1.symm.trans q3
  exact Wp.tr (X.st.getfieldR X.hx (g := mkF m pc L (.ref a :: S)) rfl q2 h3 rfl (by rw [X.eh]; exact h1) h4 h7 (X.hb hd) (Steps.refl _)) K
theorem w_lam (X : Sd Z n0 kk code ml own nm ret h p l e R s m args below meth c T locs cells slots) {y : MethodName} {index : Nat} {σ : Lambda.Shape} {cF : ClassId} {lam : Addr} (hn : s.methodNamed? y = some m) (hL : Z.lambdaAt? y pc index σ = some (cF, some lam)) (hd : Dc code pc (.invokedynamic index) 5 pc') (hsz : L.size = ml) (hl : (S.map fun v => v.category).sum + 3072 ≤ R.locals) (K : Wp p e below P (T.setTop (mkF m pc' L (.ref lam :: S)))) : Wp p e below P (T.setTop (mkF m pc L S)) := by
  obtain ⟨hd, rfl⟩ := hd
  obtain ⟨m', kS, cfS, i0, p0, lk, hm', hkS, -, -, -, hfind, -, -, hlk⟩ := State.lambdaAt?_spec hL
  have e1 : m' = m := by
    have q := State.methodNamed?_setVm (s := Z) X.hZ.alike y
    rw [hm'] at q
    exact Option.some.inj (q.symm.trans hn)
  subst e1
  obtain rfl : lk = .constant lam := by
    rcases hlk with ⟨a, cl, h1, h2, -⟩ | ⟨-, h2, -⟩
    · cases h2; exact h1
    · cases h2
  obtain ⟨k', hk', he'⟩ := X.hZ.alike.2.2 _ _ hkS
  have hsite : (k'.callSites.find? fun y => y.1 == m'.idx && y.2.1 == pc) = some (i0, p0, .constant lam) := by rw [he']; exact hfind
  refine Wp.of (fun _ k => ?_) K
  exact X.st.lambdaConstant X.hx (g := mkF m' pc L S) rfl (by rw [X.hml]; exact hsz) (X.hb hd) hk' hsite (by rw [X.st.admits.platform]; show 2 * 0 + (S.map fun v => v.category).sum + 3072 ≤ R.locals; omega) k
end StepsR
end Jvm.RoadKit
namespace Jvm.RoadKit
theorem own_eqI {args : Array Value} {first s : State} {o : Option Outcome} {idx : List Nat} {a b : Term} {x y : Int32} (ha : a.eval args first o idx s = some (.int x)) (hb : b.eval args first o idx s = some (.int y)) : (Cond.eq a b).value args first o s idx = some (decide (x = y)) := by simp [Cond.value, ha, hb]
end Jvm.RoadKit
namespace Jvm.Pilot.@@N@@
open Jvm Jvm.ClassFile Sem Op Lib Jvm.Free Jvm.Stand Jvm.LawKit Jvm.RoadKit Bundle Jvm.Pilot.@@N@@.Jvm.D
def own_hw (a0 : Array Value) (Z : State) : Prop := ∀ d ∈ tables_1, d.before a0 Z = true
def own_at (d : Jvm.Cond) : Prop := ∀ {a0 : Array Value} {Z : State}, own_hw a0 Z → d.before a0 Z = true
theorem own_mk (i : Nat) {d : Jvm.Cond} (h : tables_1[i]? = some d) : own_at d := fun hw => hw _ (List.mem_of_getElem? h)
theorem leR {a b : Nat} (h : Nat.ble a b = true) : a ≤ b := Nat.le_of_ble_eq_true h
theorem ni1 {x a : Addr} (h : x ≠ a) : x ∉ [a] := fun q => h (List.mem_singleton.mp q)
theorem ni2 {x a b : Addr} (h : x ≠ a ∧ x ≠ b) : x ∉ [a, b] := fun q => by
  simp only [List.mem_cons, List.not_mem_nil, or_false] at q
  exact q.elim h.1 h.2
theorem ni3 {x a b c : Addr} (h : x ≠ a ∧ x ≠ b ∧ x ≠ c) : x ∉ [a, b, c] := fun q => by
  simp only [List.mem_cons, List.not_mem_nil, or_false] at q
  exact q.elim h.1 fun q => q.elim h.2.1 h.2.2
theorem ni4 {x a b c d : Addr} (h : x ≠ a ∧ x ≠ b ∧ x ≠ c ∧ x ≠ d) : x ∉ [a, b, c, d] := fun q => by
  simp only [List.mem_cons, List.not_mem_nil, or_false] at q
  exact q.elim h.1 fun q => q.elim h.2.1 fun q => q.elim h.2.2.1 h.2.2.2
theorem own_lt_of {x y : Int64} (h1 : ¬ x < y) (h2 : ¬ x = y) : y < x := by
  rw [Int64.lt_iff_toInt_lt] at h1 ⊢
  have : x.toInt ≠ y.toInt := fun q => h2 (Int64.toInt_inj.mp q)
  omega
def own_J (Z : State) (h : Heap) (a : Addr) (x : Int64) : Prop := Exa Z h a "java/lang/Long" ∧ Fld Z h a "java/lang/Long" "value" "J" (.long x)
theorem own_J.keep {Z : State} {h h' : Heap} {a : Addr} {x : Int64} {ws : List Addr} (A : own_J Z h a x) (K : Keep h h' ws) (q : a ∉ ws) : own_J Z h' a x := ⟨A.1.keep K, A.2.keep K q⟩
theorem own_J.ext {Z : State} {h h' : Heap} {a : Addr} {x : Int64} (A : own_J Z h a x) (E : Ext h h') : own_J Z h' a x := ⟨A.1.ext E, A.2.ext E⟩
def own_N (Z : State) (n0 : Nat) (h : Heap) (a : Addr) (kv vv lv rv pv : Value) (col : Int32) : Prop := n0 ≤ a ∧ Exa Z h a "java/util/TreeMap$Entry" ∧ Fld Z h a "java/util/TreeMap$Entry" "key" "Ljava/lang/Object;" kv ∧ Fld Z h a "java/util/TreeMap$Entry" "value" "Ljava/lang/Object;" vv ∧ Fld Z h a "java/util/TreeMap$Entry" "left" "Ljava/util/TreeMap$Entry;" lv ∧ Fld Z h a "java/util/TreeMap$Entry" "right" "Ljava/util/TreeMap$Entry;" rv ∧ Fld Z h a "java/util/TreeMap$Entry" "parent" "Ljava/util/TreeMap$Entry;" pv ∧ Fld Z h a "java/util/TreeMap$Entry" "color" "Z" (.int col)
def own_M (Z : State) (n0 : Nat) (h : Heap) (a : Addr) (rv ev : Value) (sz mc : Int32) : Prop := n0 ≤ a ∧ Exa Z h a "java/util/TreeMap" ∧ Fld Z h a "java/util/TreeMap" "root" "Ljava/util/TreeMap$Entry;" rv ∧ Fld Z h a "java/util/TreeMap" "size" "I" (.int sz) ∧ Fld Z h a "java/util/TreeMap" "modCount" "I" (.int mc) ∧ Fld Z h a "java/util/TreeMap" "comparator" "Ljava/util/Comparator;" .null ∧ Fld Z h a "java/util/TreeMap" "entrySet" "Ljava/util/TreeMap$EntrySet;" ev
def own_I (Z : State) (n0 : Nat) (h : Heap) (a : Addr) (tm : Addr) (mc : Int32) (lr nx : Value) : Prop := n0 ≤ a ∧ Exa Z h a "java/util/TreeMap$EntryIterator" ∧ Fld Z h a "java/util/TreeMap$PrivateEntryIterator" "this$0" "Ljava/util/TreeMap;" (.ref tm) ∧ Fld Z h a "java/util/TreeMap$PrivateEntryIterator" "expectedModCount" "I" (.int mc) ∧ Fld Z h a "java/util/TreeMap$PrivateEntryIterator" "lastReturned" "Ljava/util/TreeMap$Entry;" lr ∧ Fld Z h a "java/util/TreeMap$PrivateEntryIterator" "next" "Ljava/util/TreeMap$Entry;" nx
theorem own_N.keep {Z : State} {n0 : Nat} {h h' : Heap} {a : Addr} {kv vv lv rv pv : Value} {col : Int32} {ws : List Addr} (N : own_N Z n0 h a kv vv lv rv pv col) (K : Keep h h' ws) (q : a ∉ ws) : own_N Z n0 h' a kv vv lv rv pv col := ⟨N.1, N.2.1.keep K, N.2.2.1.keep K q, N.2.2.2.1.keep K q, N.2.2.2.2.1.keep K q, N.2.2.2.2.2.1.keep K q, N.2.2.2.2.2.2.1.keep K q, N.2.2.2.2.2.2.2.keep K q⟩
theorem own_M.keep {Z : State} {n0 : Nat} {h h' : Heap} {a : Addr} {rv ev : Value} {sz mc : Int32} {ws : List Addr} (N : own_M Z n0 h a rv ev sz mc) (K : Keep h h' ws) (q : a ∉ ws) : own_M Z n0 h' a rv ev sz mc := ⟨N.1, N.2.1.keep K, N.2.2.1.keep K q, N.2.2.2.1.keep K q, N.2.2.2.2.1.keep K q, N.2.2.2.2.2.1.keep K q, N.2.2.2.2.2.2.keep K q⟩
def own_ok (Z : State) (h : Heap) (ws : List Addr) : Prop := ∀ a ∈ ws, ∃ C, Exa Z h a C ∧ C ≠ "java/util/TreeMap$Entry" ∧ C ≠ "java/lang/Long"
theorem own_ok0 {Z : State} {h : Heap} : own_ok Z h [] := fun _ q => nomatch q
theorem own_ok1 {Z : State} {h : Heap} {a : Addr} {C : String} (E : Exa Z h a C) (q1 : C ≠ "java/util/TreeMap$Entry") (q2 : C ≠ "java/lang/Long") : own_ok Z h [a] := fun x q => by cases List.mem_singleton.mp q; exact ⟨C, E, q1, q2⟩
theorem own_N.kp {Z : State} {n0 : Nat} {h h' : Heap} {a : Addr} {kv vv lv rv pv : Value} {col : Int32} {ws : List Addr} (N : own_N Z n0 h a kv vv lv rv pv col) (K : Keep h h' ws) (ok : own_ok Z h' ws) : own_N Z n0 h' a kv vv lv rv pv col :=
  N.keep K fun q => by obtain ⟨C, F, hC, -⟩ := ok a q; exact (F.ne (N.2.1.keep K) hC) rfl
theorem own_J.kp {Z : State} {h h' : Heap} {a : Addr} {x : Int64} {ws : List Addr} (A : own_J Z h a x) (K : Keep h h' ws) (ok : own_ok Z h' ws) : own_J Z h' a x :=
  A.keep K fun q => by obtain ⟨C, F, -, hC⟩ := ok a q; exact (F.ne (A.1.keep K) hC) rfl
def own_Sh (Z : State) (n0 : Nat) (h : Heap) (root : Value) : List (Int64 × Int64) → Prop
  | [] => root = .null
  | [(k, c)] => ∃ er kl vl, root = .ref er ∧ own_N Z n0 h er (.ref kl) (.ref vl) .null .null .null 1 ∧ own_J Z h kl k ∧ own_J Z h vl c
  | [(k1, c1), (k2, c2)] => k1 < k2 ∧ ((∃ er el kl1 vl1 kl2 vl2, root = .ref er ∧ er ≠ el ∧ own_N Z n0 h er (.ref kl2) (.ref vl2) (.ref el) .null .null 1 ∧ own_N Z n0 h el (.ref kl1) (.ref vl1) .null .null (.ref er) 0 ∧ own_J Z h kl1 k1 ∧ own_J Z h vl1 c1 ∧ own_J Z h kl2 k2 ∧ own_J Z h vl2 c2) ∨
      (∃ er eq kl1 vl1 kl2 vl2, root = .ref er ∧ er ≠ eq ∧ own_N Z n0 h er (.ref kl1) (.ref vl1) .null (.ref eq) .null 1 ∧ own_N Z n0 h eq (.ref kl2) (.ref vl2) .null .null (.ref er) 0 ∧ own_J Z h kl1 k1 ∧ own_J Z h vl1 c1 ∧ own_J Z h kl2 k2 ∧ own_J Z h vl2 c2))
  | [(k1, c1), (k2, c2), (k3, c3)] => ∃ er el eq kl1 vl1 kl2 vl2 kl3 vl3, root = .ref er ∧ el ≠ eq ∧ own_N Z n0 h er (.ref kl2) (.ref vl2) (.ref el) (.ref eq) .null 1 ∧ own_N Z n0 h el (.ref kl1) (.ref vl1) .null .null (.ref er) 0 ∧ own_N Z n0 h eq (.ref kl3) (.ref vl3) .null .null (.ref er) 0 ∧ own_J Z h kl1 k1 ∧ own_J Z h vl1 c1 ∧ own_J Z h kl2 k2 ∧ own_J Z h vl2 c2 ∧ own_J Z h kl3 k3 ∧ own_J Z h vl3 c3
  | _ => False
theorem own_Sh.kp {Z : State} {n0 : Nat} {h h' : Heap} {root : Value} {ws : List Addr} (K : Keep h h' ws) (ok : own_ok Z h' ws) : ∀ {kcs : List (Int64 × Int64)}, own_Sh Z n0 h root kcs → own_Sh Z n0 h' root kcs
  | [], S => S
  | [(k, c)], ⟨er, kl, vl, e1, N, J1, J2⟩ => ⟨er, kl, vl, e1, N.kp K ok, J1.kp K ok, J2.kp K ok⟩
  | [(k1, c1), (k2, c2)], ⟨h12, Or.inl ⟨er, el, kl1, vl1, kl2, vl2, e1, ne, N1, N2, J1, J2, J3, J4⟩⟩ => ⟨h12, Or.inl ⟨er, el, kl1, vl1, kl2, vl2, e1, ne, N1.kp K ok, N2.kp K ok, J1.kp K ok, J2.kp K ok, J3.kp K ok, J4.kp K ok⟩⟩
  | [(k1, c1), (k2, c2)], ⟨h12, Or.inr ⟨er, el, kl1, vl1, kl2, vl2, e1, ne, N1, N2, J1, J2, J3, J4⟩⟩ => ⟨h12, Or.inr ⟨er, el, kl1, vl1, kl2, vl2, e1, ne, N1.kp K ok, N2.kp K ok, J1.kp K ok, J2.kp K ok, J3.kp K ok, J4.kp K ok⟩⟩
  | [(k1, c1), (k2, c2), (k3, c3)], ⟨er, el, eq, kl1, vl1, kl2, vl2, kl3, vl3, e1, ne, N1, N2, N3, J1, J2, J3, J4, J5, J6⟩ => ⟨er, el, eq, kl1, vl1, kl2, vl2, kl3, vl3, e1, ne, N1.kp K ok, N2.kp K ok, N3.kp K ok, J1.kp K ok, J2.kp K ok, J3.kp K ok, J4.kp K ok, J5.kp K ok, J6.kp K ok⟩
  | (_, _) :: (_, _) :: (_, _) :: (_, _) :: _, S => False.elim (show False from S)
def own_Tr (Z : State) (n0 : Nat) (h : Heap) (tm : Addr) (ev : Value) (kcs : List (Int64 × Int64)) : Prop := ∃ root sz mc, own_M Z n0 h tm root ev sz mc ∧ own_Sh Z n0 h root kcs
theorem own_Tr.exa {Z : State} {n0 : Nat} {h : Heap} {tm : Addr} {ev : Value} {kcs : List (Int64 × Int64)} (T : own_Tr Z n0 h tm ev kcs) : Exa Z h tm "java/util/TreeMap" := by obtain ⟨_, _, _, M, -⟩ := T; exact M.2.1
theorem own_Tr.kp {Z : State} {n0 : Nat} {h h' : Heap} {tm : Addr} {ev : Value} {kcs : List (Int64 × Int64)} {ws : List Addr} (T : own_Tr Z n0 h tm ev kcs) (K : Keep h h' ws) (ok : own_ok Z h' ws) (q : tm ∉ ws) : own_Tr Z n0 h' tm ev kcs := by
  obtain ⟨root, sz, mc, M, S⟩ := T
  exact ⟨root, sz, mc, M.keep K q, S.kp K ok⟩
def own_cl (Z : State) (h : Heap) (ws : List Addr) : Prop := ∀ a C, Exa Z h a C → C ≠ "java/util/TreeMap" → C ≠ "java/util/TreeMap$Entry" → a ∉ ws
theorem own_cl0 {Z : State} {h : Heap} : own_cl Z h [] := fun _ _ _ _ _ q => nomatch q
theorem own_clM {Z : State} {h : Heap} {a : Addr} {ws : List Addr} (E : Exa Z h a "java/util/TreeMap") (q : own_cl Z h ws) : own_cl Z h (a :: ws) := fun x C F h1 h2 m => by
  rcases List.mem_cons.mp m with rfl | m
  · exact (F.ne E h1) rfl
  · exact q x C F h1 h2 m
theorem own_clE {Z : State} {h : Heap} {a : Addr} {ws : List Addr} (E : Exa Z h a "java/util/TreeMap$Entry") (q : own_cl Z h ws) : own_cl Z h (a :: ws) := fun x C F h1 h2 m => by
  rcases List.mem_cons.mp m with rfl | m
  · exact (F.ne E h2) rfl
  · exact q x C F h1 h2 m
def own_Es (Z : State) (h : Heap) (tm : Addr) (ev : Value) : Prop := ev = .null ∨ ∃ es, ev = .ref es ∧ Exa Z h es "java/util/TreeMap$EntrySet" ∧ Fld Z h es "java/util/TreeMap$EntrySet" "this$0" "Ljava/util/TreeMap;" (.ref tm)
def own_RT (Z : State) (n0 : Nat) (h : Heap) (rt : Addr) (n : Int64) (ev : Value) (kcs : List (Int64 × Int64)) : Prop := ∃ tm, n0 ≤ rt ∧ Exa Z h rt "com/example/bounded_lock/boundedlock/cli/RoundTimes" ∧ Fld Z h rt "com/example/bounded_lock/boundedlock/cli/RoundTimes" "counts" "Ljava/util/TreeMap;" (.ref tm) ∧ Fld Z h rt "com/example/bounded_lock/boundedlock/cli/RoundTimes" "rounds" "J" (.long n) ∧ own_Tr Z n0 h tm ev kcs ∧ own_Es Z h tm ev
def own_cmp (x y : Int64) : Int32 := if x < y then -1 else if x = y then 0 else 1
theorem own_cl_lt {x y : Int64} (h : own_cmp x y < 0) : x < y := by
  unfold own_cmp at h; split at h
  · assumption
  · split at h <;> exact absurd h (by decide)
theorem own_cl_gt {x y : Int64} (h1 : ¬ own_cmp x y < 0) (h2 : 0 < own_cmp x y) : y < x := by
  unfold own_cmp at h1 h2; split at h1
  · exact absurd (by decide) h1
  · rename_i q; rw [if_neg q] at h2; split at h2
    · exact absurd h2 (by decide)
    · rename_i q2; exact own_lt_of q q2
theorem own_cl_eq {x y : Int64} (h1 : ¬ own_cmp x y < 0) (h2 : ¬ 0 < own_cmp x y) : x = y := by
  unfold own_cmp at h1 h2; split at h1
  · exact absurd (by decide) h1
  · rename_i q; rw [if_neg q] at h2; split at h2
    · assumption
    · exact absurd (by decide) h2
def own_ins (k : Int64) : List (Int64 × Int64) → List (Int64 × Int64)
  | [] => [(k, 1)]
  | (k1, c1) :: t => if k < k1 then (k, 1) :: (k1, c1) :: t else if k = k1 then (k1, c1 + 1) :: t else (k1, c1) :: own_ins k t
theorem own_ia {k k1 c1 : Int64} {t : List (Int64 × Int64)} (h : k < k1) : own_ins k ((k1, c1) :: t) = (k, 1) :: (k1, c1) :: t := by rw [own_ins, if_pos h]
theorem own_ib {k k1 c1 : Int64} {t : List (Int64 × Int64)} (h : k = k1) : own_ins k ((k1, c1) :: t) = (k1, c1 + 1) :: t := by subst h; rw [own_ins, if_neg Int64.lt_irrefl, if_pos rfl]
theorem own_ic {k k1 c1 : Int64} {t : List (Int64 × Int64)} (h : k1 < k) : own_ins k ((k1, c1) :: t) = (k1, c1) :: own_ins k t := by rw [own_ins, if_neg (fun q => Int64.lt_irrefl (Int64.lt_trans q h)), if_neg (fun q => by subst q; exact Int64.lt_irrefl h)]
theorem own_i0 {k : Int64} : own_ins k [] = [(k, 1)] := rfl
def own_pc (nd : Int64) : Int64 → List (Int64 × Int64) → Int64
  | _, [] => 0
  | s, (k, c) :: t => if s + c < nd then own_pc nd (s + c) t else k
def own_tot : Int64 → List (Int64 × Int64) → Int64
  | s, [] => s
  | s, (_, c) :: t => own_tot (s + c) t
def own_mn (x y : Int64) : Int64 := if y < x then y else x
def own_mx (x y : Int64) : Int64 := if x < y then y else x
def own_mi (x : Int64) : Int64 := if x - x / 1000 * 1000 < 500 then x / 1000 else x / 1000 + 1
theorem own_rne {a b : Addr} (h : a ≠ b) : ¬ (Value.ref a = Value.ref b) := fun q => h (by injection q)
def own_C (Z : State) (ca : Addr) (cc : Cell) : Prop := Sta Z Z.heap "java/lang/Long$LongCache" "cache" "[Ljava/lang/Long;" (.ref ca) ∧ Bxs Z ca cc "java/lang/Long" "J" 256 (fun j => .long (j - 128).toInt64)
theorem own_c128 {x : Int64} (h1 : ¬ x < -128) (h2 : ¬ 127 < x) : (x.toInt32 + 128 : Int32).toInt = x.toInt + 128 := by
  rw [Int64.lt_iff_toInt_lt] at h1 h2
  have e1 : (-128 : Int64).toInt = -128 := by decide
  have e2 : (127 : Int64).toInt = 127 := by decide
  rw [e1] at h1; rw [e2] at h2
  rw [Int32.toInt_add, Int64.toInt_toInt32, show (128 : Int32).toInt = 128 from by decide, Int.bmod_add_bmod, Int.bmod_eq_of_le (by omega) (by omega)]
theorem own_c64 {x : Int64} (h1 : ¬ x < -128) (h2 : ¬ 127 < x) : (x.toInt32 + 128 - 128 : Int32).toInt64 = x := by
  apply Int64.toInt_inj.mp
  rw [Int32.toInt_toInt64, Int32.toInt_sub, own_c128 h1 h2, show (128 : Int32).toInt = 128 from by decide]
  rw [Int64.lt_iff_toInt_lt] at h1 h2
  have e1 : (-128 : Int64).toInt = -128 := by decide
  have e2 : (127 : Int64).toInt = 127 := by decide
  rw [e1] at h1; rw [e2] at h2
  rw [Int.bmod_eq_of_le (by omega) (by omega)]; omega
theorem own_lt_eq {k k1 k2 : Int64} (h : k1 < k2) (q : k = k2) : k1 < k := by rw [q]; exact h
section OwnA
variable {Z : State} {n0 kk : Nat} {code : ByteArray} {ml : Nat} {own nm : String} {ret : Option FieldType} {h : Heap} {p : Program} {l : Launch} {e : Env} {R : Room} {s : State} {m : MethodId} {args : Array Value} {below : List Frame} {meth : Method} {c : Code} {T : State} {locs : List Loc} {cells slots : Nat} {P : State → Outcome → Prop} {a0 : Array Value} {pc pc' : Nat} {L : Array Slot} {S : List Value}
theorem w_aaloadC (X : Sd Z n0 kk code ml own nm ret h p l e R s m args below meth c T locs cells slots) {ca : Addr} {cc : Cell} {x : Int64} (hd : Dc code pc .aaload 1 pc') (C : own_C Z ca cc) (h1 : ¬ x < -128) (h2 : ¬ 127 < x) (K : ∀ b, own_J Z h b x → Wp p e below P (T.setTop (mkF m pc' L (.ref b :: S)))) : Wp p e below P (T.setTop (mkF m pc L (.int (x.toInt32 + 128) :: .ref ca :: S))) := by
  obtain ⟨hd, rfl⟩ := hd
  obtain ⟨-, A, hs, hz, hb⟩ := C
  have e1 := own_c128 h1 h2
  rw [Int64.lt_iff_toInt_lt] at h1 h2
  have e2 : (-128 : Int64).toInt = -128 := by decide
  have e3 : (127 : Int64).toInt = 127 := by decide
  rw [e2] at h1; rw [e3] at h2
  have hin : ¬ ((x.toInt32 + 128 : Int32) < 0 ∨ cc.slots.size ≤ (x.toInt32 + 128 : Int32).toNatClampNeg) := by
    rw [hs, Int32.lt_iff_toInt_lt]
    simp only [Int32.toNatClampNeg, e1]
    have e4 : (0 : Int32).toInt = 0 := by decide
    have e5 : (256 : Int32).toInt = 256 := by decide
    rw [e4, e5]; omega
  obtain ⟨b, q1, q2, q3⟩ := hb _ hin
  have A' := A.ext X.old.2
  replace q3 : Fld Z Z.heap b "java/lang/Long" "value" "J" (.long (x.toInt32 + 128 - 128 : Int32).toInt64) := q3
  rw [own_c64 (by rw [Int64.lt_iff_toInt_lt, e2]; exact h1) (by rw [Int64.lt_iff_toInt_lt, e3]; exact h2)] at q3
  exact Wp.of (fun _ k => X.st.aaload X.hx (by rw [X.eh]; exact A'.1) (State.isArrayOf_alike X.hZ.alike A'.2.1) rfl A'.2.2 hin q1 (g := mkF m pc L (.int (x.toInt32 + 128) :: .ref ca :: S)) rfl rfl (X.hb hd) _ k) (K b ⟨q2.ext X.old.2, q3.ext X.old.2⟩)
end OwnA
theorem own_RT.exa {Z : State} {n0 : Nat} {h : Heap} {rt : Addr} {n : Int64} {ev : Value} {kcs : List (Int64 × Int64)} (R0 : own_RT Z n0 h rt n ev kcs) : Exa Z h rt "com/example/bounded_lock/boundedlock/cli/RoundTimes" := by obtain ⟨_, _, E, -⟩ := R0; exact E
theorem own_RT.rnd {Z : State} {n0 : Nat} {h : Heap} {rt : Addr} {n : Int64} {ev : Value} {kcs : List (Int64 × Int64)} (R0 : own_RT Z n0 h rt n ev kcs) : Fld Z h rt "com/example/bounded_lock/boundedlock/cli/RoundTimes" "rounds" "J" (.long n) := by obtain ⟨_, _, _, _, F, -⟩ := R0; exact F
theorem own_il (k : Int64) : ∀ t : List (Int64 × Int64), (own_ins k t).length ≤ t.length + 1
  | [] => Nat.le_refl _
  | (k1, c1) :: t => by
    rw [own_ins]; split
    · exact Nat.le_refl _
    · split
      · simp
      · have := own_il k t; simp; omega
theorem own_len0 : ([] : List (Int64 × Int64)).length ≤ 2 := Nat.zero_le _
theorem own_len1 {a : Int64} : (own_ins a []).length ≤ 2 := Nat.le_of_ble_eq_true rfl
theorem own_len2 {a b : Int64} : (own_ins b (own_ins a [])).length ≤ 2 := own_il b (own_ins a [])
theorem own_ne3 {k : Int64} {t : List (Int64 × Int64)} : own_ins k t ≠ [] := by
  cases t with
  | nil => exact nofun
  | cons q t =>
    obtain ⟨k1, c1⟩ := q
    rw [own_ins]; split
    · exact nofun
    · split <;> exact nofun
theorem own_tot_s (t : Int64) : ∀ (l : List (Int64 × Int64)) (s : Int64), own_tot (s + t) l = own_tot s l + t
  | [], s => rfl
  | (k, c) :: l, s => by
    rw [own_tot, own_tot, ← own_tot_s t l (s + c), Int64.add_assoc, Int64.add_comm t c, ← Int64.add_assoc]
theorem own_tot_i (k : Int64) : ∀ (l : List (Int64 × Int64)) (s : Int64), own_tot s (own_ins k l) = own_tot s l + 1
  | [], s => rfl
  | (k1, c1) :: l, s => by
    rw [own_ins]; split
    · rw [own_tot, own_tot_s]
    · split
      · rw [own_tot, own_tot, ← Int64.add_assoc, own_tot_s]
      · rw [own_tot, own_tot, own_tot_i k l]
theorem own_tot3 {a b c nd : Int64} (h : ¬ (3 : Int64) < nd) : ¬ own_tot 0 (own_ins c (own_ins b (own_ins a []))) < nd := by
  rw [own_tot_i, own_tot_i, own_tot_i]
  exact h
theorem own_tri (x y : Int64) : x < y ∨ x = y ∨ y < x := by
  by_cases h : x < y
  · exact Or.inl h
  · by_cases q : x = y
    · exact Or.inr (Or.inl q)
    · exact Or.inr (Or.inr (own_lt_of h q))
theorem own_msk (q : Int64) : 0 ≤ (q &&& (4611686018427387903 : Int64)).toInt ∧ (q &&& (4611686018427387903 : Int64)).toInt < 4611686018427387904 := by
  have h1 : (q &&& (4611686018427387903 : Int64)).toBitVec.toNat ≤ 4611686018427387903 := by
    rw [Int64.toBitVec_and, BitVec.toNat_and]
    exact Nat.and_le_right
  have h2 : (q &&& (4611686018427387903 : Int64)).toInt = ((q &&& (4611686018427387903 : Int64)).toBitVec.toNat : Int) := BitVec.toInt_eq_toNat_of_lt (by omega)
  rw [h2]; omega
theorem own_mi_eq (q : Int64) : own_mi (q &&& (4611686018427387903 : Int64)) = ((q &&& (4611686018427387903 : Int64)) + 500) / 1000 := by
  obtain ⟨h1, h2⟩ := own_msk q
  generalize q &&& (4611686018427387903 : Int64) = x at h1 h2 ⊢
  have e1 : (1000 : Int64).toInt = 1000 := by decide
  have e2 : (500 : Int64).toInt = 500 := by decide
  have e3 : (1 : Int64).toInt = 1 := by decide
  have d1 : (x / 1000).toInt = x.toInt / 1000 := by
    rw [Int64.toInt_div, e1, Int.tdiv_eq_ediv_of_nonneg h1, Int.bmod_eq_of_le (by omega) (by omega)]
  have d2 : (x / 1000 * 1000).toInt = x.toInt / 1000 * 1000 := by
    rw [Int64.toInt_mul, d1, e1, Int.bmod_eq_of_le (by omega) (by omega)]
  have d3 : (x - x / 1000 * 1000).toInt = x.toInt - x.toInt / 1000 * 1000 := by
    rw [Int64.toInt_sub, d2, Int.bmod_eq_of_le (by omega) (by omega)]
  have d4 : (x + 500).toInt = x.toInt + 500 := by
    rw [Int64.toInt_add, e2, Int.bmod_eq_of_le (by omega) (by omega)]
  have d5 : ((x + 500) / 1000).toInt = (x.toInt + 500) / 1000 := by
    rw [Int64.toInt_div, e1, d4, Int.tdiv_eq_ediv_of_nonneg (by omega), Int.bmod_eq_of_le (by omega) (by omega)]
  have d6 : (x / 1000 + 1).toInt = x.toInt / 1000 + 1 := by
    rw [Int64.toInt_add, d1, e3, Int.bmod_eq_of_le (by omega) (by omega)]
  apply Int64.toInt_inj.mp
  rw [d5]
  unfold own_mi
  split
  · rename_i q; rw [Int64.lt_iff_toInt_lt, d3, e2] at q; rw [d1]; omega
  · rename_i q; rw [Int64.lt_iff_toInt_lt, d3, e2] at q; rw [d6]; omega
theorem own_pl (x y z : Int64) : own_pc 1 0 (own_ins z (own_ins y (own_ins x []))) = own_mn x (own_mn y z) ∧ own_pc 2 0 (own_ins z (own_ins y (own_ins x []))) = x + y + z - own_mn x (own_mn y z) - own_mx x (own_mx y z) ∧ own_pc 3 0 (own_ins z (own_ins y (own_ins x []))) = own_mx x (own_mx y z) := by
  rcases own_tri y x with h | h | h
  · rw [own_i0, own_ia h]
    rcases own_tri z y with g | g | g
    · rw [own_ia g]
      refine ⟨(show own_pc 1 0 _ = z from by first | rfl | simp [own_pc]).trans ?_, (show own_pc 2 0 _ = y from by first | rfl | simp [own_pc]).trans ?_, (show own_pc 3 0 _ = x from by first | rfl | simp [own_pc]).trans ?_⟩ <;> simp only [own_mn, own_mx] <;> (repeat' split) <;> first | rfl | (exfalso; simp only [Int64.lt_iff_toInt_lt] at *; omega) | (apply Int64.toBitVec_inj.mp; simp only [Int64.toBitVec_add, Int64.toBitVec_sub]; apply BitVec.eq_of_toNat_eq; simp only [BitVec.toNat_add, BitVec.toNat_sub]; have b_x := x.toBitVec.isLt; have b_y := y.toBitVec.isLt; have b_z := z.toBitVec.isLt; omega)
    · rw [own_ib g]
      subst g
      refine ⟨(show own_pc 1 0 _ = z from by first | rfl | simp [own_pc]).trans ?_, (show own_pc 2 0 _ = z from by first | rfl | simp [own_pc]).trans ?_, (show own_pc 3 0 _ = x from by first | rfl | simp [own_pc]).trans ?_⟩ <;> simp only [own_mn, own_mx] <;> (repeat' split) <;> first | rfl | (exfalso; simp only [Int64.lt_iff_toInt_lt] at *; omega) | (apply Int64.toBitVec_inj.mp; simp only [Int64.toBitVec_add, Int64.toBitVec_sub]; apply BitVec.eq_of_toNat_eq; simp only [BitVec.toNat_add, BitVec.toNat_sub]; have b_x := x.toBitVec.isLt; have b_z := z.toBitVec.isLt; omega)
    · rw [own_ic g]
      rcases own_tri z x with f | f | f
      · rw [own_ia f]
        refine ⟨(show own_pc 1 0 _ = y from by first | rfl | simp [own_pc]).trans ?_, (show own_pc 2 0 _ = z from by first | rfl | simp [own_pc]).trans ?_, (show own_pc 3 0 _ = x from by first | rfl | simp [own_pc]).trans ?_⟩ <;> simp only [own_mn, own_mx] <;> (repeat' split) <;> first | rfl | (exfalso; simp only [Int64.lt_iff_toInt_lt] at *; omega) | (apply Int64.toBitVec_inj.mp; simp only [Int64.toBitVec_add, Int64.toBitVec_sub]; apply BitVec.eq_of_toNat_eq; simp only [BitVec.toNat_add, BitVec.toNat_sub]; have b_x := x.toBitVec.isLt; have b_y := y.toBitVec.isLt; have b_z := z.toBitVec.isLt; omega)
      · rw [own_ib f]
        subst f
        refine ⟨(show own_pc 1 0 _ = y from by first | rfl | simp [own_pc]).trans ?_, (show own_pc 2 0 _ = z from by first | rfl | simp [own_pc]).trans ?_, (show own_pc 3 0 _ = z from by first | rfl | simp [own_pc]).trans ?_⟩ <;> simp only [own_mn, own_mx] <;> (repeat' split) <;> first | rfl | (exfalso; simp only [Int64.lt_iff_toInt_lt] at *; omega) | (apply Int64.toBitVec_inj.mp; simp only [Int64.toBitVec_add, Int64.toBitVec_sub]; apply BitVec.eq_of_toNat_eq; simp only [BitVec.toNat_add, BitVec.toNat_sub]; have b_y := y.toBitVec.isLt; have b_z := z.toBitVec.isLt; omega)
      · rw [own_ic f, own_i0]
        refine ⟨(show own_pc 1 0 _ = y from by first | rfl | simp [own_pc]).trans ?_, (show own_pc 2 0 _ = x from by first | rfl | simp [own_pc]).trans ?_, (show own_pc 3 0 _ = z from by first | rfl | simp [own_pc]).trans ?_⟩ <;> simp only [own_mn, own_mx] <;> (repeat' split) <;> first | rfl | (exfalso; simp only [Int64.lt_iff_toInt_lt] at *; omega) | (apply Int64.toBitVec_inj.mp; simp only [Int64.toBitVec_add, Int64.toBitVec_sub]; apply BitVec.eq_of_toNat_eq; simp only [BitVec.toNat_add, BitVec.toNat_sub]; have b_x := x.toBitVec.isLt; have b_y := y.toBitVec.isLt; have b_z := z.toBitVec.isLt; omega)
  · rw [own_i0, own_ib h]
    subst h
    rcases own_tri z y with g | g | g
    · rw [own_ia g]
      refine ⟨(show own_pc 1 0 _ = z from by first | rfl | simp [own_pc]).trans ?_, (show own_pc 2 0 _ = y from by first | rfl | simp [own_pc]).trans ?_, (show own_pc 3 0 _ = y from by first | rfl | simp [own_pc]).trans ?_⟩ <;> simp only [own_mn, own_mx] <;> (repeat' split) <;> first | rfl | (exfalso; simp only [Int64.lt_iff_toInt_lt] at *; omega) | (apply Int64.toBitVec_inj.mp; simp only [Int64.toBitVec_add, Int64.toBitVec_sub]; apply BitVec.eq_of_toNat_eq; simp only [BitVec.toNat_add, BitVec.toNat_sub]; have b_y := y.toBitVec.isLt; have b_z := z.toBitVec.isLt; omega)
    · rw [own_ib g]
      subst g
      refine ⟨(show own_pc 1 0 _ = z from by first | rfl | simp [own_pc]).trans ?_, (show own_pc 2 0 _ = z from by first | rfl | simp [own_pc]).trans ?_, (show own_pc 3 0 _ = z from by first | rfl | simp [own_pc]).trans ?_⟩ <;> simp only [own_mn, own_mx] <;> (repeat' split) <;> first | rfl | (exfalso; simp only [Int64.lt_iff_toInt_lt] at *; omega) | (apply Int64.toBitVec_inj.mp; simp only [Int64.toBitVec_add, Int64.toBitVec_sub]; apply BitVec.eq_of_toNat_eq; simp only [BitVec.toNat_add, BitVec.toNat_sub]; have b_z := z.toBitVec.isLt; omega)
    · rw [own_ic g, own_i0]
      refine ⟨(show own_pc 1 0 _ = y from by first | rfl | simp [own_pc]).trans ?_, (show own_pc 2 0 _ = y from by first | rfl | simp [own_pc]).trans ?_, (show own_pc 3 0 _ = z from by first | rfl | simp [own_pc]).trans ?_⟩ <;> simp only [own_mn, own_mx] <;> (repeat' split) <;> first | rfl | (exfalso; simp only [Int64.lt_iff_toInt_lt] at *; omega) | (apply Int64.toBitVec_inj.mp; simp only [Int64.toBitVec_add, Int64.toBitVec_sub]; apply BitVec.eq_of_toNat_eq; simp only [BitVec.toNat_add, BitVec.toNat_sub]; have b_y := y.toBitVec.isLt; have b_z := z.toBitVec.isLt; omega)
  · rw [own_i0, own_ic h, own_i0]
    rcases own_tri z x with g | g | g
    · rw [own_ia g]
      refine ⟨(show own_pc 1 0 _ = z from by first | rfl | simp [own_pc]).trans ?_, (show own_pc 2 0 _ = x from by first | rfl | simp [own_pc]).trans ?_, (show own_pc 3 0 _ = y from by first | rfl | simp [own_pc]).trans ?_⟩ <;> simp only [own_mn, own_mx] <;> (repeat' split) <;> first | rfl | (exfalso; simp only [Int64.lt_iff_toInt_lt] at *; omega) | (apply Int64.toBitVec_inj.mp; simp only [Int64.toBitVec_add, Int64.toBitVec_sub]; apply BitVec.eq_of_toNat_eq; simp only [BitVec.toNat_add, BitVec.toNat_sub]; have b_x := x.toBitVec.isLt; have b_y := y.toBitVec.isLt; have b_z := z.toBitVec.isLt; omega)
    · rw [own_ib g]
      subst g
      refine ⟨(show own_pc 1 0 _ = z from by first | rfl | simp [own_pc]).trans ?_, (show own_pc 2 0 _ = z from by first | rfl | simp [own_pc]).trans ?_, (show own_pc 3 0 _ = y from by first | rfl | simp [own_pc]).trans ?_⟩ <;> simp only [own_mn, own_mx] <;> (repeat' split) <;> first | rfl | (exfalso; simp only [Int64.lt_iff_toInt_lt] at *; omega) | (apply Int64.toBitVec_inj.mp; simp only [Int64.toBitVec_add, Int64.toBitVec_sub]; apply BitVec.eq_of_toNat_eq; simp only [BitVec.toNat_add, BitVec.toNat_sub]; have b_y := y.toBitVec.isLt; have b_z := z.toBitVec.isLt; omega)
    · rw [own_ic g]
      rcases own_tri z y with f | f | f
      · rw [own_ia f]
        refine ⟨(show own_pc 1 0 _ = x from by first | rfl | simp [own_pc]).trans ?_, (show own_pc 2 0 _ = z from by first | rfl | simp [own_pc]).trans ?_, (show own_pc 3 0 _ = y from by first | rfl | simp [own_pc]).trans ?_⟩ <;> simp only [own_mn, own_mx] <;> (repeat' split) <;> first | rfl | (exfalso; simp only [Int64.lt_iff_toInt_lt] at *; omega) | (apply Int64.toBitVec_inj.mp; simp only [Int64.toBitVec_add, Int64.toBitVec_sub]; apply BitVec.eq_of_toNat_eq; simp only [BitVec.toNat_add, BitVec.toNat_sub]; have b_x := x.toBitVec.isLt; have b_y := y.toBitVec.isLt; have b_z := z.toBitVec.isLt; omega)
      · rw [own_ib f]
        subst f
        refine ⟨(show own_pc 1 0 _ = x from by first | rfl | simp [own_pc]).trans ?_, (show own_pc 2 0 _ = z from by first | rfl | simp [own_pc]).trans ?_, (show own_pc 3 0 _ = z from by first | rfl | simp [own_pc]).trans ?_⟩ <;> simp only [own_mn, own_mx] <;> (repeat' split) <;> first | rfl | (exfalso; simp only [Int64.lt_iff_toInt_lt] at *; omega) | (apply Int64.toBitVec_inj.mp; simp only [Int64.toBitVec_add, Int64.toBitVec_sub]; apply BitVec.eq_of_toNat_eq; simp only [BitVec.toNat_add, BitVec.toNat_sub]; have b_x := x.toBitVec.isLt; have b_z := z.toBitVec.isLt; omega)
      · rw [own_ic f, own_i0]
        refine ⟨(show own_pc 1 0 _ = x from by first | rfl | simp [own_pc]).trans ?_, (show own_pc 2 0 _ = y from by first | rfl | simp [own_pc]).trans ?_, (show own_pc 3 0 _ = z from by first | rfl | simp [own_pc]).trans ?_⟩ <;> simp only [own_mn, own_mx] <;> (repeat' split) <;> first | rfl | (exfalso; simp only [Int64.lt_iff_toInt_lt] at *; omega) | (apply Int64.toBitVec_inj.mp; simp only [Int64.toBitVec_add, Int64.toBitVec_sub]; apply BitVec.eq_of_toNat_eq; simp only [BitVec.toNat_add, BitVec.toNat_sub]; have b_x := x.toBitVec.isLt; have b_y := y.toBitVec.isLt; have b_z := z.toBitVec.isLt; omega)
theorem own_lo (u0 u1 u2 : Int64) : (own_pc (1 : Int64) 0 (own_ins (((u2 &&& (4611686018427387903 : Int64)) + 500) / 1000) (own_ins (((u1 &&& (4611686018427387903 : Int64)) + 500) / 1000) (own_ins (((u0 &&& (4611686018427387903 : Int64)) + 500) / 1000) [])))) = (own_mn (own_mi (u0 &&& (4611686018427387903 : Int64))) (own_mn (own_mi (u1 &&& (4611686018427387903 : Int64))) (own_mi (u2 &&& (4611686018427387903 : Int64))))) := by rw [own_mi_eq, own_mi_eq, own_mi_eq]; exact (own_pl _ _ _).1
theorem own_md (u0 u1 u2 : Int64) : (own_pc (2 : Int64) 0 (own_ins (((u2 &&& (4611686018427387903 : Int64)) + 500) / 1000) (own_ins (((u1 &&& (4611686018427387903 : Int64)) + 500) / 1000) (own_ins (((u0 &&& (4611686018427387903 : Int64)) + 500) / 1000) [])))) = (((((own_mi (u0 &&& (4611686018427387903 : Int64))) + (own_mi (u1 &&& (4611686018427387903 : Int64)))) + (own_mi (u2 &&& (4611686018427387903 : Int64)))) - (own_mn (own_mi (u0 &&& (4611686018427387903 : Int64))) (own_mn (own_mi (u1 &&& (4611686018427387903 : Int64))) (own_mi (u2 &&& (4611686018427387903 : Int64)))))) - (own_mx (own_mi (u0 &&& (4611686018427387903 : Int64))) (own_mx (own_mi (u1 &&& (4611686018427387903 : Int64))) (own_mi (u2 &&& (4611686018427387903 : Int64)))))) := by rw [own_mi_eq, own_mi_eq, own_mi_eq]; exact (own_pl _ _ _).2.1
theorem own_hi (u0 u1 u2 : Int64) : (own_pc (3 : Int64) 0 (own_ins (((u2 &&& (4611686018427387903 : Int64)) + 500) / 1000) (own_ins (((u1 &&& (4611686018427387903 : Int64)) + 500) / 1000) (own_ins (((u0 &&& (4611686018427387903 : Int64)) + 500) / 1000) [])))) = (own_mx (own_mi (u0 &&& (4611686018427387903 : Int64))) (own_mx (own_mi (u1 &&& (4611686018427387903 : Int64))) (own_mi (u2 &&& (4611686018427387903 : Int64))))) := by rw [own_mi_eq, own_mi_eq, own_mi_eq]; exact (own_pl _ _ _).2.2
theorem own_sz {Z : State} {args : Array Value} {t : Jvm.Term} {a : Addr} {c : Cell} {z : Int32} (et : t.eval args Z none [] Z = some (.ref a)) (hA : Z.arrayAt? a = some c) (h : (Jvm.Term.length t).eval args Z none [] Z = some (.int z)) : c.slots.size < 2 ^ 31 ∧ c.slots.size.toInt32 = z := by
  simp only [Jvm.Term.eval, et, hA, Option.bind_eq_bind, Option.bind_some] at h
  split at h
  · rename_i q; simp at h; exact ⟨q, h⟩
  · cases h
theorem own_sub {Z : State} {args : Array Value} {t : Jvm.Term} {idx : List Nat} {j : Int32} (h : t.eval args Z none idx Z = some (.int j)) : (Jvm.Term.sub t (Jvm.Term.int (128 : Int32))).eval args Z none idx Z = some (.int (j - 128)) := by simp [Jvm.Term.eval, h]
theorem wd_0 : own_at (Cond.constantLong "com/example/bounded_lock/boundedlock/cli/RoundTimesAddPinLaw" 11 (4611686018427387903 : Int64)) := own_mk 0 rfl
theorem wd_1 : own_at (Cond.methodLink "com/example/bounded_lock/boundedlock/cli/RoundTimesAddPinLaw" 13 ⟨"com/example/bounded_lock/boundedlock/cli/RoundTimesAddPinLaw", "micros", "(J)J"⟩) := own_mk 1 rfl
theorem wd_2 : own_at (Cond.static ⟨"com/example/bounded_lock/boundedlock/cli/RoundTimesAddPinLaw", "micros", "(J)J"⟩) := own_mk 2 rfl
theorem wd_3 : own_at (Cond.initialized "com/example/bounded_lock/boundedlock/cli/RoundTimesAddPinLaw") := own_mk 3 rfl
theorem wd_4 : own_at (Cond.code ⟨"com/example/bounded_lock/boundedlock/cli/RoundTimesAddPinLaw", "micros", "(J)J"⟩ method_2_code 6 (some .long)) := own_mk 4 rfl
theorem wd_5 : own_at (Cond.constantLong "com/example/bounded_lock/boundedlock/cli/RoundTimesAddPinLaw" 7 (1000 : Int64)) := own_mk 5 rfl
theorem wd_6 : own_at (Cond.constantLong "com/example/bounded_lock/boundedlock/cli/RoundTimesAddPinLaw" 9 (500 : Int64)) := own_mk 6 rfl
theorem wd_7 : own_at (Cond.methodLink "com/example/bounded_lock/boundedlock/cli/RoundTimesAddPinLaw" 19 ⟨"java/lang/Math", "min", "(JJ)J"⟩) := own_mk 7 rfl
theorem wd_8 : own_at (Cond.static ⟨"java/lang/Math", "min", "(JJ)J"⟩) := own_mk 8 rfl
theorem wd_9 : own_at (Cond.initialized "java/lang/Math") := own_mk 9 rfl
theorem wd_10 : own_at (Cond.code ⟨"java/lang/Math", "min", "(JJ)J"⟩ jdk_29_method_70_code 4 (some .long)) := own_mk 10 rfl
theorem wd_11 : own_at (Cond.methodLink "com/example/bounded_lock/boundedlock/cli/RoundTimesAddPinLaw" 25 ⟨"java/lang/Math", "max", "(JJ)J"⟩) := own_mk 11 rfl
theorem wd_12 : own_at (Cond.static ⟨"java/lang/Math", "max", "(JJ)J"⟩) := own_mk 12 rfl
theorem wd_13 : own_at (Cond.code ⟨"java/lang/Math", "max", "(JJ)J"⟩ jdk_29_method_66_code 4 (some .long)) := own_mk 13 rfl
theorem wd_14 : own_at (Cond.classLink "com/example/bounded_lock/boundedlock/cli/RoundTimesAddPinLaw" 28 "com/example/bounded_lock/boundedlock/cli/RoundTimes") := own_mk 14 rfl
theorem wd_15 : own_at (Cond.instantiable "com/example/bounded_lock/boundedlock/cli/RoundTimes" 2) := own_mk 15 rfl
theorem wd_16 : own_at (Cond.initialized "com/example/bounded_lock/boundedlock/cli/RoundTimes") := own_mk 16 rfl
theorem wd_17 : own_at (Cond.methodLink "com/example/bounded_lock/boundedlock/cli/RoundTimesAddPinLaw" 30 ⟨"com/example/bounded_lock/boundedlock/cli/RoundTimes", "<init>", "()V"⟩) := own_mk 17 rfl
theorem wd_18 : own_at (Cond.instanceMethod ⟨"com/example/bounded_lock/boundedlock/cli/RoundTimes", "<init>", "()V"⟩) := own_mk 18 rfl
theorem wd_19 : own_at (Cond.code ⟨"com/example/bounded_lock/boundedlock/cli/RoundTimes", "<init>", "()V"⟩ prog_2_method_1_code 1 none) := own_mk 19 rfl
theorem wd_20 : own_at (Cond.methodLink "com/example/bounded_lock/boundedlock/cli/RoundTimes" 1 ⟨"java/lang/Object", "<init>", "()V"⟩) := own_mk 20 rfl
theorem wd_21 : own_at (Cond.instanceMethod ⟨"java/lang/Object", "<init>", "()V"⟩) := own_mk 21 rfl
theorem wd_22 : own_at (Cond.code ⟨"java/lang/Object", "<init>", "()V"⟩ object_method_1_code 1 none) := own_mk 22 rfl
theorem wd_23 : own_at (Cond.classLink "com/example/bounded_lock/boundedlock/cli/RoundTimes" 7 "java/util/TreeMap") := own_mk 23 rfl
theorem wd_24 : own_at (Cond.instantiable "java/util/TreeMap" 9) := own_mk 24 rfl
theorem wd_25 : own_at (Cond.initialized "java/util/TreeMap") := own_mk 25 rfl
theorem wd_26 : own_at (Cond.methodLink "com/example/bounded_lock/boundedlock/cli/RoundTimes" 9 ⟨"java/util/TreeMap", "<init>", "()V"⟩) := own_mk 26 rfl
theorem wd_27 : own_at (Cond.instanceMethod ⟨"java/util/TreeMap", "<init>", "()V"⟩) := own_mk 27 rfl
theorem wd_28 : own_at (Cond.code ⟨"java/util/TreeMap", "<init>", "()V"⟩ jdk_2729_method_1_code 1 none) := own_mk 28 rfl
theorem wd_29 : own_at (Cond.methodLink "java/util/TreeMap" 1 ⟨"java/util/AbstractMap", "<init>", "()V"⟩) := own_mk 29 rfl
theorem wd_30 : own_at (Cond.instanceMethod ⟨"java/util/AbstractMap", "<init>", "()V"⟩) := own_mk 30 rfl
theorem wd_33 : own_at (Cond.initialized "java/util/AbstractMap") := own_mk 33 rfl
theorem wd_34 : own_at (Cond.code ⟨"java/util/AbstractMap", "<init>", "()V"⟩ jdk_71_method_1_code 1 none) := own_mk 34 rfl
theorem wd_35 : own_at (Cond.methodLink "java/util/AbstractMap" 1 ⟨"java/lang/Object", "<init>", "()V"⟩) := own_mk 35 rfl
theorem wd_36 : own_at (Cond.fieldLink "java/util/TreeMap" 7 "java/util/TreeMap" "size" "I") := own_mk 36 rfl
theorem wd_37 : own_at (Cond.lays "java/util/TreeMap" "java/util/TreeMap" "size" "I") := own_mk 37 rfl
theorem wd_38 : own_at (Cond.fieldLink "java/util/TreeMap" 13 "java/util/TreeMap" "modCount" "I") := own_mk 38 rfl
theorem wd_39 : own_at (Cond.lays "java/util/TreeMap" "java/util/TreeMap" "modCount" "I") := own_mk 39 rfl
theorem wd_40 : own_at (Cond.fieldLink "java/util/TreeMap" 16 "java/util/TreeMap" "comparator" "Ljava/util/Comparator;") := own_mk 40 rfl
theorem wd_41 : own_at (Cond.laysFinal "java/util/TreeMap" "java/util/TreeMap" "comparator" "Ljava/util/Comparator;") := own_mk 41 rfl
theorem wd_42 : own_at (Cond.fieldLink "com/example/bounded_lock/boundedlock/cli/RoundTimes" 10 "com/example/bounded_lock/boundedlock/cli/RoundTimes" "counts" "Ljava/util/TreeMap;") := own_mk 42 rfl
theorem wd_43 : own_at (Cond.laysFinal "com/example/bounded_lock/boundedlock/cli/RoundTimes" "com/example/bounded_lock/boundedlock/cli/RoundTimes" "counts" "Ljava/util/TreeMap;") := own_mk 43 rfl
theorem wd_44 : own_at (Cond.methodLink "com/example/bounded_lock/boundedlock/cli/RoundTimesAddPinLaw" 31 ⟨"com/example/bounded_lock/boundedlock/cli/RoundTimes", "add", "(J)V"⟩) := own_mk 44 rfl
theorem wd_45 : own_at (Cond.declares ⟨"com/example/bounded_lock/boundedlock/cli/RoundTimes", "add", "(J)V"⟩) := own_mk 45 rfl
theorem wd_46 : own_at (Cond.instanceMethod ⟨"com/example/bounded_lock/boundedlock/cli/RoundTimes", "add", "(J)V"⟩) := own_mk 46 rfl
theorem wd_47 : own_at (Cond.selects "com/example/bounded_lock/boundedlock/cli/RoundTimes" ⟨"com/example/bounded_lock/boundedlock/cli/RoundTimes", "add", "(J)V"⟩ ⟨"com/example/bounded_lock/boundedlock/cli/RoundTimes", "add", "(J)V"⟩) := own_mk 47 rfl
theorem wd_48 : own_at (Cond.code ⟨"com/example/bounded_lock/boundedlock/cli/RoundTimes", "add", "(J)V"⟩ prog_2_method_2_code 3 none) := own_mk 48 rfl
theorem wd_49 : own_at (Cond.constantLong "com/example/bounded_lock/boundedlock/cli/RoundTimes" 16 (500 : Int64)) := own_mk 49 rfl
theorem wd_50 : own_at (Cond.constantLong "com/example/bounded_lock/boundedlock/cli/RoundTimes" 18 (1000 : Int64)) := own_mk 50 rfl
theorem wd_51 : own_at (Cond.methodLink "com/example/bounded_lock/boundedlock/cli/RoundTimes" 20 ⟨"java/lang/Long", "valueOf", "(J)Ljava/lang/Long;"⟩) := own_mk 51 rfl
theorem wd_52 : own_at (Cond.static ⟨"java/lang/Long", "valueOf", "(J)Ljava/lang/Long;"⟩) := own_mk 52 rfl
theorem wd_53 : own_at (Cond.initialized "java/lang/Long") := own_mk 53 rfl
theorem wd_54 : own_at (Cond.code ⟨"java/lang/Long", "valueOf", "(J)Ljava/lang/Long;"⟩ jdk_35_method_24_code 3 (Option.some (FieldType.object "java/lang/Long"))) := own_mk 54 rfl
theorem wd_55 : own_at (Cond.constantLong "java/lang/Long" 230 (-128 : Int64)) := own_mk 55 rfl
theorem wd_56 : own_at (Cond.constantLong "java/lang/Long" 232 (127 : Int64)) := own_mk 56 rfl
theorem wd_57 : own_at (Cond.fieldLink "java/lang/Long" 234 "java/lang/Long$LongCache" "cache" "[Ljava/lang/Long;") := own_mk 57 rfl
theorem wd_59 : own_at (Cond.lambdaSite ⟨"com/example/bounded_lock/boundedlock/cli/RoundTimes", "add", "(J)V"⟩ 20 26 (Jvm.Lambda.Shape.mk "java/util/function/BiFunction" "apply" (Jvm.ClassFile.MethodDescriptor.mk ([(FieldType.object "java/lang/Object"), (FieldType.object "java/lang/Object")] : List Jvm.ClassFile.FieldType) (Option.some (FieldType.object "java/lang/Object"))) ([] : List Jvm.ClassFile.FieldType) 6 "java/lang/Long" "sum" (Jvm.ClassFile.MethodDescriptor.mk ([FieldType.long, FieldType.long] : List Jvm.ClassFile.FieldType) (some .long)) false (Jvm.ClassFile.MethodDescriptor.mk ([(FieldType.object "java/lang/Long"), (FieldType.object "java/lang/Long")] : List Jvm.ClassFile.FieldType) (Option.some (FieldType.object "java/lang/Long"))))) := own_mk 59 rfl
theorem wd_61 : own_at (Cond.castable "java/lang/Long" "java/lang/Long") := own_mk 61 rfl
theorem wd_62 : own_at (Cond.methodLink "com/example/bounded_lock/boundedlock/cli/RoundTimes" 30 ⟨"java/util/TreeMap", "merge", "(Ljava/lang/Object;Ljava/lang/Object;Ljava/util/function/BiFunction;)Ljava/lang/Object;"⟩) := own_mk 62 rfl
theorem wd_63 : own_at (Cond.declares ⟨"java/util/TreeMap", "merge", "(Ljava/lang/Object;Ljava/lang/Object;Ljava/util/function/BiFunction;)Ljava/lang/Object;"⟩) := own_mk 63 rfl
theorem wd_64 : own_at (Cond.instanceMethod ⟨"java/util/TreeMap", "merge", "(Ljava/lang/Object;Ljava/lang/Object;Ljava/util/function/BiFunction;)Ljava/lang/Object;"⟩) := own_mk 64 rfl
theorem wd_65 : own_at (Cond.selects "java/util/TreeMap" ⟨"java/util/TreeMap", "merge", "(Ljava/lang/Object;Ljava/lang/Object;Ljava/util/function/BiFunction;)Ljava/lang/Object;"⟩ ⟨"java/util/TreeMap", "merge", "(Ljava/lang/Object;Ljava/lang/Object;Ljava/util/function/BiFunction;)Ljava/lang/Object;"⟩) := own_mk 65 rfl
theorem wd_66 : own_at (Cond.code ⟨"java/util/TreeMap", "merge", "(Ljava/lang/Object;Ljava/lang/Object;Ljava/util/function/BiFunction;)Ljava/lang/Object;"⟩ jdk_2729_method_26_code 9 (Option.some (FieldType.object "java/lang/Object"))) := own_mk 66 rfl
theorem wd_67 : own_at (Cond.methodLink "java/util/TreeMap" 95 ⟨"java/util/Objects", "requireNonNull", "(Ljava/lang/Object;)Ljava/lang/Object;"⟩) := own_mk 67 rfl
theorem wd_68 : own_at (Cond.static ⟨"java/util/Objects", "requireNonNull", "(Ljava/lang/Object;)Ljava/lang/Object;"⟩) := own_mk 68 rfl
theorem wd_69 : own_at (Cond.initialized "java/util/Objects") := own_mk 69 rfl
theorem wd_70 : own_at (Cond.code ⟨"java/util/Objects", "requireNonNull", "(Ljava/lang/Object;)Ljava/lang/Object;"⟩ jdk_31_method_10_code 1 (Option.some (FieldType.object "java/lang/Object"))) := own_mk 70 rfl
theorem wd_71 : own_at (Cond.fieldLink "java/util/TreeMap" 101 "java/util/TreeMap" "root" "Ljava/util/TreeMap$Entry;") := own_mk 71 rfl
theorem wd_72 : own_at (Cond.lays "java/util/TreeMap" "java/util/TreeMap" "root" "Ljava/util/TreeMap$Entry;") := own_mk 72 rfl
theorem wd_73 : own_at (Cond.methodLink "java/util/TreeMap" 135 ⟨"java/util/TreeMap", "addEntryToEmptyMap", "(Ljava/lang/Object;Ljava/lang/Object;)V"⟩) := own_mk 73 rfl
theorem wd_74 : own_at (Cond.instanceMethod ⟨"java/util/TreeMap", "addEntryToEmptyMap", "(Ljava/lang/Object;Ljava/lang/Object;)V"⟩) := own_mk 74 rfl
theorem wd_75 : own_at (Cond.privateMethod ⟨"java/util/TreeMap", "addEntryToEmptyMap", "(Ljava/lang/Object;Ljava/lang/Object;)V"⟩) := own_mk 75 rfl
theorem wd_76 : own_at (Cond.selects "java/util/TreeMap" ⟨"java/util/TreeMap", "addEntryToEmptyMap", "(Ljava/lang/Object;Ljava/lang/Object;)V"⟩ ⟨"java/util/TreeMap", "addEntryToEmptyMap", "(Ljava/lang/Object;Ljava/lang/Object;)V"⟩) := own_mk 76 rfl
theorem wd_77 : own_at (Cond.code ⟨"java/util/TreeMap", "addEntryToEmptyMap", "(Ljava/lang/Object;Ljava/lang/Object;)V"⟩ jdk_2729_method_30_code 3 none) := own_mk 77 rfl
theorem wd_78 : own_at (Cond.methodLink "java/util/TreeMap" 123 ⟨"java/util/TreeMap", "compare", "(Ljava/lang/Object;Ljava/lang/Object;)I"⟩) := own_mk 78 rfl
theorem wd_79 : own_at (Cond.declares ⟨"java/util/TreeMap", "compare", "(Ljava/lang/Object;Ljava/lang/Object;)I"⟩) := own_mk 79 rfl
theorem wd_80 : own_at (Cond.instanceMethod ⟨"java/util/TreeMap", "compare", "(Ljava/lang/Object;Ljava/lang/Object;)I"⟩) := own_mk 80 rfl
theorem wd_81 : own_at (Cond.selects "java/util/TreeMap" ⟨"java/util/TreeMap", "compare", "(Ljava/lang/Object;Ljava/lang/Object;)I"⟩ ⟨"java/util/TreeMap", "compare", "(Ljava/lang/Object;Ljava/lang/Object;)I"⟩) := own_mk 81 rfl
theorem wd_82 : own_at (Cond.code ⟨"java/util/TreeMap", "compare", "(Ljava/lang/Object;Ljava/lang/Object;)I"⟩ jdk_2729_method_67_code 3 (some .int)) := own_mk 82 rfl
theorem wd_83 : own_at (Cond.classLink "java/util/TreeMap" 99 "java/lang/Comparable") := own_mk 83 rfl
theorem wd_84 : own_at (Cond.castable "java/lang/Long" "java/lang/Comparable") := own_mk 84 rfl
theorem wd_85 : own_at (Cond.methodLink "java/util/TreeMap" 107 ⟨"java/lang/Comparable", "compareTo", "(Ljava/lang/Object;)I"⟩) := own_mk 85 rfl
theorem wd_86 : own_at (Cond.declares ⟨"java/lang/Comparable", "compareTo", "(Ljava/lang/Object;)I"⟩) := own_mk 86 rfl
theorem wd_87 : own_at (Cond.interfaceMethod "java/lang/Comparable" "java/lang/Comparable" "compareTo" "(Ljava/lang/Object;)I") := own_mk 87 rfl
theorem wd_88 : own_at (Cond.selects "java/lang/Long" ⟨"java/lang/Comparable", "compareTo", "(Ljava/lang/Object;)I"⟩ ⟨"java/lang/Long", "compareTo", "(Ljava/lang/Object;)I"⟩) := own_mk 88 rfl
theorem wd_89 : own_at (Cond.instanceMethod ⟨"java/lang/Long", "compareTo", "(Ljava/lang/Object;)I"⟩) := own_mk 89 rfl
theorem wd_90 : own_at (Cond.publicMethod ⟨"java/lang/Long", "compareTo", "(Ljava/lang/Object;)I"⟩) := own_mk 90 rfl
theorem wd_91 : own_at (Cond.unhidden "java/lang/Long" "compareTo" "(Ljava/lang/Object;)I") := own_mk 91 rfl
theorem wd_92 : own_at (Cond.code ⟨"java/lang/Long", "compareTo", "(Ljava/lang/Object;)I"⟩ jdk_35_method_64_code 2 (some .int)) := own_mk 92 rfl
theorem wd_93 : own_at (Cond.classLink "java/lang/Long" 1 "java/lang/Long") := own_mk 93 rfl
theorem wd_94 : own_at (Cond.methodLink "java/lang/Long" 343 ⟨"java/lang/Long", "compareTo", "(Ljava/lang/Long;)I"⟩) := own_mk 94 rfl
theorem wd_95 : own_at (Cond.declares ⟨"java/lang/Long", "compareTo", "(Ljava/lang/Long;)I"⟩) := own_mk 95 rfl
theorem wd_96 : own_at (Cond.instanceMethod ⟨"java/lang/Long", "compareTo", "(Ljava/lang/Long;)I"⟩) := own_mk 96 rfl
theorem wd_97 : own_at (Cond.selects "java/lang/Long" ⟨"java/lang/Long", "compareTo", "(Ljava/lang/Long;)I"⟩ ⟨"java/lang/Long", "compareTo", "(Ljava/lang/Long;)I"⟩) := own_mk 97 rfl
theorem wd_98 : own_at (Cond.code ⟨"java/lang/Long", "compareTo", "(Ljava/lang/Long;)I"⟩ jdk_35_method_41_code 2 (some .int)) := own_mk 98 rfl
theorem wd_99 : own_at (Cond.fieldLink "java/lang/Long" 273 "java/lang/Long" "value" "J") := own_mk 99 rfl
theorem wd_100 : own_at (Cond.laysFinal "java/lang/Long" "java/lang/Long" "value" "J") := own_mk 100 rfl
theorem wd_101 : own_at (Cond.methodLink "java/lang/Long" 302 ⟨"java/lang/Long", "compare", "(JJ)I"⟩) := own_mk 101 rfl
theorem wd_102 : own_at (Cond.static ⟨"java/lang/Long", "compare", "(JJ)I"⟩) := own_mk 102 rfl
theorem wd_103 : own_at (Cond.code ⟨"java/lang/Long", "compare", "(JJ)I"⟩ jdk_35_method_42_code 4 (some .int)) := own_mk 103 rfl
theorem wd_104 : own_at (Cond.classLink "java/util/TreeMap" 59 "java/util/TreeMap$Entry") := own_mk 104 rfl
theorem wd_105 : own_at (Cond.instantiable "java/util/TreeMap$Entry" 6) := own_mk 105 rfl
theorem wd_106 : own_at (Cond.initialized "java/util/TreeMap$Entry") := own_mk 106 rfl
theorem wd_107 : own_at (Cond.methodLink "java/util/TreeMap" 167 ⟨"java/util/TreeMap$Entry", "<init>", "(Ljava/lang/Object;Ljava/lang/Object;Ljava/util/TreeMap$Entry;)V"⟩) := own_mk 107 rfl
theorem wd_108 : own_at (Cond.instanceMethod ⟨"java/util/TreeMap$Entry", "<init>", "(Ljava/lang/Object;Ljava/lang/Object;Ljava/util/TreeMap$Entry;)V"⟩) := own_mk 108 rfl
theorem wd_110 : own_at (Cond.code ⟨"java/util/TreeMap$Entry", "<init>", "(Ljava/lang/Object;Ljava/lang/Object;Ljava/util/TreeMap$Entry;)V"⟩ jdk_2736_method_1_code 4 none) := own_mk 110 rfl
theorem wd_111 : own_at (Cond.methodLink "java/util/TreeMap$Entry" 3 ⟨"java/lang/Object", "<init>", "()V"⟩) := own_mk 111 rfl
theorem wd_112 : own_at (Cond.fieldLink "java/util/TreeMap$Entry" 9 "java/util/TreeMap$Entry" "color" "Z") := own_mk 112 rfl
theorem wd_113 : own_at (Cond.lays "java/util/TreeMap$Entry" "java/util/TreeMap$Entry" "color" "Z") := own_mk 113 rfl
theorem wd_114 : own_at (Cond.fieldLink "java/util/TreeMap$Entry" 15 "java/util/TreeMap$Entry" "key" "Ljava/lang/Object;") := own_mk 114 rfl
theorem wd_115 : own_at (Cond.lays "java/util/TreeMap$Entry" "java/util/TreeMap$Entry" "key" "Ljava/lang/Object;") := own_mk 115 rfl
theorem wd_116 : own_at (Cond.fieldLink "java/util/TreeMap$Entry" 19 "java/util/TreeMap$Entry" "value" "Ljava/lang/Object;") := own_mk 116 rfl
theorem wd_117 : own_at (Cond.lays "java/util/TreeMap$Entry" "java/util/TreeMap$Entry" "value" "Ljava/lang/Object;") := own_mk 117 rfl
theorem wd_118 : own_at (Cond.fieldLink "java/util/TreeMap$Entry" 22 "java/util/TreeMap$Entry" "parent" "Ljava/util/TreeMap$Entry;") := own_mk 118 rfl
theorem wd_119 : own_at (Cond.lays "java/util/TreeMap$Entry" "java/util/TreeMap$Entry" "parent" "Ljava/util/TreeMap$Entry;") := own_mk 119 rfl
theorem wd_120 : own_at (Cond.fieldLink "com/example/bounded_lock/boundedlock/cli/RoundTimes" 34 "com/example/bounded_lock/boundedlock/cli/RoundTimes" "rounds" "J") := own_mk 120 rfl
theorem wd_121 : own_at (Cond.lays "com/example/bounded_lock/boundedlock/cli/RoundTimes" "com/example/bounded_lock/boundedlock/cli/RoundTimes" "rounds" "J") := own_mk 121 rfl
theorem wd_122 : own_at (Cond.methodLink "com/example/bounded_lock/boundedlock/cli/RoundTimesAddPinLaw" 35 ⟨"com/example/bounded_lock/boundedlock/cli/RoundTimes", "rounds", "()J"⟩) := own_mk 122 rfl
theorem wd_123 : own_at (Cond.declares ⟨"com/example/bounded_lock/boundedlock/cli/RoundTimes", "rounds", "()J"⟩) := own_mk 123 rfl
theorem wd_124 : own_at (Cond.instanceMethod ⟨"com/example/bounded_lock/boundedlock/cli/RoundTimes", "rounds", "()J"⟩) := own_mk 124 rfl
theorem wd_125 : own_at (Cond.selects "com/example/bounded_lock/boundedlock/cli/RoundTimes" ⟨"com/example/bounded_lock/boundedlock/cli/RoundTimes", "rounds", "()J"⟩ ⟨"com/example/bounded_lock/boundedlock/cli/RoundTimes", "rounds", "()J"⟩) := own_mk 125 rfl
theorem wd_126 : own_at (Cond.code ⟨"com/example/bounded_lock/boundedlock/cli/RoundTimes", "rounds", "()J"⟩ prog_2_method_4_code 1 (some .long)) := own_mk 126 rfl
theorem wd_127 : own_at (Cond.fieldLink "java/util/TreeMap" 105 "java/util/TreeMap$Entry" "key" "Ljava/lang/Object;") := own_mk 127 rfl
theorem wd_128 : own_at (Cond.methodLink "java/util/TreeMap" 151 ⟨"java/util/TreeMap", "mergeValue", "(Ljava/util/TreeMap$Entry;Ljava/lang/Object;Ljava/util/function/BiFunction;)Ljava/lang/Object;"⟩) := own_mk 128 rfl
theorem wd_129 : own_at (Cond.instanceMethod ⟨"java/util/TreeMap", "mergeValue", "(Ljava/util/TreeMap$Entry;Ljava/lang/Object;Ljava/util/function/BiFunction;)Ljava/lang/Object;"⟩) := own_mk 129 rfl
theorem wd_130 : own_at (Cond.privateMethod ⟨"java/util/TreeMap", "mergeValue", "(Ljava/util/TreeMap$Entry;Ljava/lang/Object;Ljava/util/function/BiFunction;)Ljava/lang/Object;"⟩) := own_mk 130 rfl
theorem wd_131 : own_at (Cond.selects "java/util/TreeMap" ⟨"java/util/TreeMap", "mergeValue", "(Ljava/util/TreeMap$Entry;Ljava/lang/Object;Ljava/util/function/BiFunction;)Ljava/lang/Object;"⟩ ⟨"java/util/TreeMap", "mergeValue", "(Ljava/util/TreeMap$Entry;Ljava/lang/Object;Ljava/util/function/BiFunction;)Ljava/lang/Object;"⟩) := own_mk 131 rfl
theorem wd_132 : own_at (Cond.code ⟨"java/util/TreeMap", "mergeValue", "(Ljava/util/TreeMap$Entry;Ljava/lang/Object;Ljava/util/function/BiFunction;)Ljava/lang/Object;"⟩ jdk_2729_method_33_code 7 (Option.some (FieldType.object "java/lang/Object"))) := own_mk 132 rfl
theorem wd_133 : own_at (Cond.fieldLink "java/util/TreeMap" 58 "java/util/TreeMap$Entry" "value" "Ljava/lang/Object;") := own_mk 133 rfl
theorem wd_134 : own_at (Cond.methodLink "java/util/TreeMap" 162 ⟨"java/util/function/BiFunction", "apply", "(Ljava/lang/Object;Ljava/lang/Object;)Ljava/lang/Object;"⟩) := own_mk 134 rfl
theorem wd_135 : own_at (Cond.declares ⟨"java/util/function/BiFunction", "apply", "(Ljava/lang/Object;Ljava/lang/Object;)Ljava/lang/Object;"⟩) := own_mk 135 rfl
theorem wd_136 : own_at (Cond.interfaceMethod "java/util/function/BiFunction" "java/util/function/BiFunction" "apply" "(Ljava/lang/Object;Ljava/lang/Object;)Ljava/lang/Object;") := own_mk 136 rfl
theorem wd_137 : own_at (Cond.static ⟨"java/lang/Long", "sum", "(JJ)J"⟩) := own_mk 137 rfl
theorem wd_138 : own_at (Cond.code ⟨"java/lang/Long", "sum", "(JJ)J"⟩ jdk_35_method_59_code 4 (some .long)) := own_mk 138 rfl
theorem wd_139 : own_at (Cond.instantiable "java/lang/Long" 1) := own_mk 139 rfl
theorem wd_140 : own_at (Cond.methodLink "java/lang/Long" 240 ⟨"java/lang/Long", "<init>", "(J)V"⟩) := own_mk 140 rfl
theorem wd_141 : own_at (Cond.instanceMethod ⟨"java/lang/Long", "<init>", "(J)V"⟩) := own_mk 141 rfl
theorem wd_142 : own_at (Cond.code ⟨"java/lang/Long", "<init>", "(J)V"⟩ jdk_35_method_26_code 3 none) := own_mk 142 rfl
theorem wd_143 : own_at (Cond.methodLink "java/lang/Long" 270 ⟨"java/lang/Number", "<init>", "()V"⟩) := own_mk 143 rfl
theorem wd_144 : own_at (Cond.instanceMethod ⟨"java/lang/Number", "<init>", "()V"⟩) := own_mk 144 rfl
theorem wd_147 : own_at (Cond.initialized "java/lang/Number") := own_mk 147 rfl
theorem wd_148 : own_at (Cond.code ⟨"java/lang/Number", "<init>", "()V"⟩ jdk_18_method_1_code 1 none) := own_mk 148 rfl
theorem wd_149 : own_at (Cond.methodLink "java/lang/Number" 1 ⟨"java/lang/Object", "<init>", "()V"⟩) := own_mk 149 rfl
theorem wd_150 : own_at (Cond.fieldLink "java/util/TreeMap" 114 "java/util/TreeMap$Entry" "right" "Ljava/util/TreeMap$Entry;") := own_mk 150 rfl
theorem wd_151 : own_at (Cond.lays "java/util/TreeMap$Entry" "java/util/TreeMap$Entry" "right" "Ljava/util/TreeMap$Entry;") := own_mk 151 rfl
theorem wd_152 : own_at (Cond.methodLink "java/util/TreeMap" 139 ⟨"java/util/TreeMap", "addEntry", "(Ljava/lang/Object;Ljava/lang/Object;Ljava/util/TreeMap$Entry;Z)V"⟩) := own_mk 152 rfl
theorem wd_153 : own_at (Cond.instanceMethod ⟨"java/util/TreeMap", "addEntry", "(Ljava/lang/Object;Ljava/lang/Object;Ljava/util/TreeMap$Entry;Z)V"⟩) := own_mk 153 rfl
theorem wd_154 : own_at (Cond.privateMethod ⟨"java/util/TreeMap", "addEntry", "(Ljava/lang/Object;Ljava/lang/Object;Ljava/util/TreeMap$Entry;Z)V"⟩) := own_mk 154 rfl
theorem wd_155 : own_at (Cond.selects "java/util/TreeMap" ⟨"java/util/TreeMap", "addEntry", "(Ljava/lang/Object;Ljava/lang/Object;Ljava/util/TreeMap$Entry;Z)V"⟩ ⟨"java/util/TreeMap", "addEntry", "(Ljava/lang/Object;Ljava/lang/Object;Ljava/util/TreeMap$Entry;Z)V"⟩) := own_mk 155 rfl
theorem wd_156 : own_at (Cond.code ⟨"java/util/TreeMap", "addEntry", "(Ljava/lang/Object;Ljava/lang/Object;Ljava/util/TreeMap$Entry;Z)V"⟩ jdk_2729_method_29_code 6 none) := own_mk 156 rfl
theorem wd_157 : own_at (Cond.methodLink "java/util/TreeMap" 170 ⟨"java/util/TreeMap", "fixAfterInsertion", "(Ljava/util/TreeMap$Entry;)V"⟩) := own_mk 157 rfl
theorem wd_158 : own_at (Cond.instanceMethod ⟨"java/util/TreeMap", "fixAfterInsertion", "(Ljava/util/TreeMap$Entry;)V"⟩) := own_mk 158 rfl
theorem wd_159 : own_at (Cond.privateMethod ⟨"java/util/TreeMap", "fixAfterInsertion", "(Ljava/util/TreeMap$Entry;)V"⟩) := own_mk 159 rfl
theorem wd_160 : own_at (Cond.selects "java/util/TreeMap" ⟨"java/util/TreeMap", "fixAfterInsertion", "(Ljava/util/TreeMap$Entry;)V"⟩ ⟨"java/util/TreeMap", "fixAfterInsertion", "(Ljava/util/TreeMap$Entry;)V"⟩) := own_mk 160 rfl
theorem wd_161 : own_at (Cond.code ⟨"java/util/TreeMap", "fixAfterInsertion", "(Ljava/util/TreeMap$Entry;)V"⟩ jdk_2729_method_83_code 3 none) := own_mk 161 rfl
theorem wd_162 : own_at (Cond.fieldLink "java/util/TreeMap" 290 "java/util/TreeMap$Entry" "color" "Z") := own_mk 162 rfl
theorem wd_163 : own_at (Cond.fieldLink "java/util/TreeMap" 124 "java/util/TreeMap$Entry" "parent" "Ljava/util/TreeMap$Entry;") := own_mk 163 rfl
theorem wd_164 : own_at (Cond.constantLong "com/example/bounded_lock/boundedlock/cli/RoundTimesAddPinLaw" 39 (3 : Int64)) := own_mk 164 rfl
theorem wd_165 : own_at (Cond.methodLink "com/example/bounded_lock/boundedlock/cli/RoundTimesAddPinLaw" 41 ⟨"com/example/bounded_lock/boundedlock/cli/RoundTimes", "percentile", "(I)J"⟩) := own_mk 165 rfl
theorem wd_166 : own_at (Cond.declares ⟨"com/example/bounded_lock/boundedlock/cli/RoundTimes", "percentile", "(I)J"⟩) := own_mk 166 rfl
theorem wd_167 : own_at (Cond.instanceMethod ⟨"com/example/bounded_lock/boundedlock/cli/RoundTimes", "percentile", "(I)J"⟩) := own_mk 167 rfl
theorem wd_168 : own_at (Cond.selects "com/example/bounded_lock/boundedlock/cli/RoundTimes" ⟨"com/example/bounded_lock/boundedlock/cli/RoundTimes", "percentile", "(I)J"⟩ ⟨"com/example/bounded_lock/boundedlock/cli/RoundTimes", "percentile", "(I)J"⟩) := own_mk 168 rfl
theorem wd_169 : own_at (Cond.code ⟨"com/example/bounded_lock/boundedlock/cli/RoundTimes", "percentile", "(I)J"⟩ prog_2_method_5_code 8 (some .long)) := own_mk 169 rfl
theorem wd_170 : own_at (Cond.constantLong "com/example/bounded_lock/boundedlock/cli/RoundTimes" 66 (99 : Int64)) := own_mk 170 rfl
theorem wd_171 : own_at (Cond.constantLong "com/example/bounded_lock/boundedlock/cli/RoundTimes" 68 (100 : Int64)) := own_mk 171 rfl
theorem wd_172 : own_at (Cond.methodLink "com/example/bounded_lock/boundedlock/cli/RoundTimes" 70 ⟨"java/lang/Math", "max", "(JJ)J"⟩) := own_mk 172 rfl
theorem wd_173 : own_at (Cond.methodLink "com/example/bounded_lock/boundedlock/cli/RoundTimes" 38 ⟨"java/util/TreeMap", "entrySet", "()Ljava/util/Set;"⟩) := own_mk 173 rfl
theorem wd_174 : own_at (Cond.declares ⟨"java/util/TreeMap", "entrySet", "()Ljava/util/Set;"⟩) := own_mk 174 rfl
theorem wd_175 : own_at (Cond.instanceMethod ⟨"java/util/TreeMap", "entrySet", "()Ljava/util/Set;"⟩) := own_mk 175 rfl
theorem wd_176 : own_at (Cond.selects "java/util/TreeMap" ⟨"java/util/TreeMap", "entrySet", "()Ljava/util/Set;"⟩ ⟨"java/util/TreeMap", "entrySet", "()Ljava/util/Set;"⟩) := own_mk 176 rfl
theorem wd_177 : own_at (Cond.code ⟨"java/util/TreeMap", "entrySet", "()Ljava/util/Set;"⟩ jdk_2729_method_53_code 2 (Option.some (FieldType.object "java/util/Set"))) := own_mk 177 rfl
theorem wd_178 : own_at (Cond.fieldLink "java/util/TreeMap" 188 "java/util/TreeMap" "entrySet" "Ljava/util/TreeMap$EntrySet;") := own_mk 178 rfl
theorem wd_179 : own_at (Cond.lays "java/util/TreeMap" "java/util/TreeMap" "entrySet" "Ljava/util/TreeMap$EntrySet;") := own_mk 179 rfl
theorem wd_180 : own_at (Cond.classLink "java/util/TreeMap" 242 "java/util/TreeMap$EntrySet") := own_mk 180 rfl
theorem wd_181 : own_at (Cond.instantiable "java/util/TreeMap$EntrySet" 1) := own_mk 181 rfl
theorem wd_182 : own_at (Cond.initialized "java/util/TreeMap$EntrySet") := own_mk 182 rfl
theorem wd_183 : own_at (Cond.methodLink "java/util/TreeMap" 244 ⟨"java/util/TreeMap$EntrySet", "<init>", "(Ljava/util/TreeMap;)V"⟩) := own_mk 183 rfl
theorem wd_184 : own_at (Cond.instanceMethod ⟨"java/util/TreeMap$EntrySet", "<init>", "(Ljava/util/TreeMap;)V"⟩) := own_mk 184 rfl
theorem wd_186 : own_at (Cond.code ⟨"java/util/TreeMap$EntrySet", "<init>", "(Ljava/util/TreeMap;)V"⟩ jdk_2738_method_1_code 2 none) := own_mk 186 rfl
theorem wd_187 : own_at (Cond.fieldLink "java/util/TreeMap$EntrySet" 1 "java/util/TreeMap$EntrySet" "this$0" "Ljava/util/TreeMap;") := own_mk 187 rfl
theorem wd_188 : own_at (Cond.laysFinal "java/util/TreeMap$EntrySet" "java/util/TreeMap$EntrySet" "this$0" "Ljava/util/TreeMap;") := own_mk 188 rfl
theorem wd_189 : own_at (Cond.methodLink "java/util/TreeMap$EntrySet" 7 ⟨"java/util/AbstractSet", "<init>", "()V"⟩) := own_mk 189 rfl
theorem wd_190 : own_at (Cond.instanceMethod ⟨"java/util/AbstractSet", "<init>", "()V"⟩) := own_mk 190 rfl
theorem wd_193 : own_at (Cond.initialized "java/util/AbstractSet") := own_mk 193 rfl
theorem wd_194 : own_at (Cond.code ⟨"java/util/AbstractSet", "<init>", "()V"⟩ jdk_91_method_1_code 1 none) := own_mk 194 rfl
theorem wd_195 : own_at (Cond.methodLink "java/util/AbstractSet" 1 ⟨"java/util/AbstractCollection", "<init>", "()V"⟩) := own_mk 195 rfl
theorem wd_196 : own_at (Cond.instanceMethod ⟨"java/util/AbstractCollection", "<init>", "()V"⟩) := own_mk 196 rfl
theorem wd_199 : own_at (Cond.initialized "java/util/AbstractCollection") := own_mk 199 rfl
theorem wd_200 : own_at (Cond.code ⟨"java/util/AbstractCollection", "<init>", "()V"⟩ jdk_22_method_1_code 1 none) := own_mk 200 rfl
theorem wd_201 : own_at (Cond.methodLink "java/util/AbstractCollection" 1 ⟨"java/lang/Object", "<init>", "()V"⟩) := own_mk 201 rfl
theorem wd_202 : own_at (Cond.methodLink "com/example/bounded_lock/boundedlock/cli/RoundTimes" 42 ⟨"java/util/Set", "iterator", "()Ljava/util/Iterator;"⟩) := own_mk 202 rfl
theorem wd_203 : own_at (Cond.declares ⟨"java/util/Set", "iterator", "()Ljava/util/Iterator;"⟩) := own_mk 203 rfl
theorem wd_204 : own_at (Cond.interfaceMethod "java/util/Set" "java/util/Set" "iterator" "()Ljava/util/Iterator;") := own_mk 204 rfl
theorem wd_205 : own_at (Cond.selects "java/util/TreeMap$EntrySet" ⟨"java/util/Set", "iterator", "()Ljava/util/Iterator;"⟩ ⟨"java/util/TreeMap$EntrySet", "iterator", "()Ljava/util/Iterator;"⟩) := own_mk 205 rfl
theorem wd_206 : own_at (Cond.instanceMethod ⟨"java/util/TreeMap$EntrySet", "iterator", "()Ljava/util/Iterator;"⟩) := own_mk 206 rfl
theorem wd_207 : own_at (Cond.publicMethod ⟨"java/util/TreeMap$EntrySet", "iterator", "()Ljava/util/Iterator;"⟩) := own_mk 207 rfl
theorem wd_208 : own_at (Cond.unhidden "java/util/TreeMap$EntrySet" "iterator" "()Ljava/util/Iterator;") := own_mk 208 rfl
theorem wd_209 : own_at (Cond.castable "java/util/TreeMap$EntrySet" "java/util/Set") := own_mk 209 rfl
theorem wd_210 : own_at (Cond.code ⟨"java/util/TreeMap$EntrySet", "iterator", "()Ljava/util/Iterator;"⟩ jdk_2738_method_2_code 1 (Option.some (FieldType.object "java/util/Iterator"))) := own_mk 210 rfl
theorem wd_211 : own_at (Cond.classLink "java/util/TreeMap$EntrySet" 13 "java/util/TreeMap$EntryIterator") := own_mk 211 rfl
theorem wd_212 : own_at (Cond.instantiable "java/util/TreeMap$EntryIterator" 4) := own_mk 212 rfl
theorem wd_213 : own_at (Cond.initialized "java/util/TreeMap$EntryIterator") := own_mk 213 rfl
theorem wd_214 : own_at (Cond.methodLink "java/util/TreeMap$EntrySet" 15 ⟨"java/util/TreeMap", "getFirstEntry", "()Ljava/util/TreeMap$Entry;"⟩) := own_mk 214 rfl
theorem wd_215 : own_at (Cond.declares ⟨"java/util/TreeMap", "getFirstEntry", "()Ljava/util/TreeMap$Entry;"⟩) := own_mk 215 rfl
theorem wd_216 : own_at (Cond.instanceMethod ⟨"java/util/TreeMap", "getFirstEntry", "()Ljava/util/TreeMap$Entry;"⟩) := own_mk 216 rfl
theorem wd_217 : own_at (Cond.selects "java/util/TreeMap" ⟨"java/util/TreeMap", "getFirstEntry", "()Ljava/util/TreeMap$Entry;"⟩ ⟨"java/util/TreeMap", "getFirstEntry", "()Ljava/util/TreeMap$Entry;"⟩) := own_mk 217 rfl
theorem wd_218 : own_at (Cond.code ⟨"java/util/TreeMap", "getFirstEntry", "()Ljava/util/TreeMap$Entry;"⟩ jdk_2729_method_72_code 2 (Option.some (FieldType.object "java/util/TreeMap$Entry"))) := own_mk 218 rfl
theorem wd_219 : own_at (Cond.fieldLink "java/util/TreeMap" 111 "java/util/TreeMap$Entry" "left" "Ljava/util/TreeMap$Entry;") := own_mk 219 rfl
theorem wd_220 : own_at (Cond.lays "java/util/TreeMap$Entry" "java/util/TreeMap$Entry" "left" "Ljava/util/TreeMap$Entry;") := own_mk 220 rfl
theorem wd_221 : own_at (Cond.methodLink "java/util/TreeMap$EntrySet" 21 ⟨"java/util/TreeMap$EntryIterator", "<init>", "(Ljava/util/TreeMap;Ljava/util/TreeMap$Entry;)V"⟩) := own_mk 221 rfl
theorem wd_222 : own_at (Cond.instanceMethod ⟨"java/util/TreeMap$EntryIterator", "<init>", "(Ljava/util/TreeMap;Ljava/util/TreeMap$Entry;)V"⟩) := own_mk 222 rfl
theorem wd_224 : own_at (Cond.code ⟨"java/util/TreeMap$EntryIterator", "<init>", "(Ljava/util/TreeMap;Ljava/util/TreeMap$Entry;)V"⟩ jdk_2737_method_1_code 3 none) := own_mk 224 rfl
theorem wd_225 : own_at (Cond.methodLink "java/util/TreeMap$EntryIterator" 1 ⟨"java/util/TreeMap$PrivateEntryIterator", "<init>", "(Ljava/util/TreeMap;Ljava/util/TreeMap$Entry;)V"⟩) := own_mk 225 rfl
theorem wd_226 : own_at (Cond.instanceMethod ⟨"java/util/TreeMap$PrivateEntryIterator", "<init>", "(Ljava/util/TreeMap;Ljava/util/TreeMap$Entry;)V"⟩) := own_mk 226 rfl
theorem wd_229 : own_at (Cond.initialized "java/util/TreeMap$PrivateEntryIterator") := own_mk 229 rfl
theorem wd_230 : own_at (Cond.code ⟨"java/util/TreeMap$PrivateEntryIterator", "<init>", "(Ljava/util/TreeMap;Ljava/util/TreeMap$Entry;)V"⟩ jdk_2750_method_1_code 3 none) := own_mk 230 rfl
theorem wd_231 : own_at (Cond.fieldLink "java/util/TreeMap$PrivateEntryIterator" 1 "java/util/TreeMap$PrivateEntryIterator" "this$0" "Ljava/util/TreeMap;") := own_mk 231 rfl
theorem wd_232 : own_at (Cond.laysFinal "java/util/TreeMap$EntryIterator" "java/util/TreeMap$PrivateEntryIterator" "this$0" "Ljava/util/TreeMap;") := own_mk 232 rfl
theorem wd_233 : own_at (Cond.methodLink "java/util/TreeMap$PrivateEntryIterator" 7 ⟨"java/lang/Object", "<init>", "()V"⟩) := own_mk 233 rfl
theorem wd_234 : own_at (Cond.fieldRef "java/util/TreeMap$PrivateEntryIterator" 13 "java/util/TreeMap" "modCount" "I") := own_mk 234 rfl
theorem wd_235 : own_at (Cond.fieldLink "java/util/TreeMap$PrivateEntryIterator" 19 "java/util/TreeMap$PrivateEntryIterator" "expectedModCount" "I") := own_mk 235 rfl
theorem wd_236 : own_at (Cond.lays "java/util/TreeMap$EntryIterator" "java/util/TreeMap$PrivateEntryIterator" "expectedModCount" "I") := own_mk 236 rfl
theorem wd_237 : own_at (Cond.fieldLink "java/util/TreeMap$PrivateEntryIterator" 22 "java/util/TreeMap$PrivateEntryIterator" "lastReturned" "Ljava/util/TreeMap$Entry;") := own_mk 237 rfl
theorem wd_238 : own_at (Cond.lays "java/util/TreeMap$EntryIterator" "java/util/TreeMap$PrivateEntryIterator" "lastReturned" "Ljava/util/TreeMap$Entry;") := own_mk 238 rfl
theorem wd_239 : own_at (Cond.fieldLink "java/util/TreeMap$PrivateEntryIterator" 26 "java/util/TreeMap$PrivateEntryIterator" "next" "Ljava/util/TreeMap$Entry;") := own_mk 239 rfl
theorem wd_240 : own_at (Cond.lays "java/util/TreeMap$EntryIterator" "java/util/TreeMap$PrivateEntryIterator" "next" "Ljava/util/TreeMap$Entry;") := own_mk 240 rfl
theorem wd_241 : own_at (Cond.methodLink "com/example/bounded_lock/boundedlock/cli/RoundTimes" 48 ⟨"java/util/Iterator", "hasNext", "()Z"⟩) := own_mk 241 rfl
theorem wd_242 : own_at (Cond.declares ⟨"java/util/Iterator", "hasNext", "()Z"⟩) := own_mk 242 rfl
theorem wd_243 : own_at (Cond.interfaceMethod "java/util/Iterator" "java/util/Iterator" "hasNext" "()Z") := own_mk 243 rfl
theorem wd_244 : own_at (Cond.selects "java/util/TreeMap$EntryIterator" ⟨"java/util/Iterator", "hasNext", "()Z"⟩ ⟨"java/util/TreeMap$PrivateEntryIterator", "hasNext", "()Z"⟩) := own_mk 244 rfl
theorem wd_245 : own_at (Cond.instanceMethod ⟨"java/util/TreeMap$PrivateEntryIterator", "hasNext", "()Z"⟩) := own_mk 245 rfl
theorem wd_246 : own_at (Cond.publicMethod ⟨"java/util/TreeMap$PrivateEntryIterator", "hasNext", "()Z"⟩) := own_mk 246 rfl
theorem wd_247 : own_at (Cond.unhidden "java/util/TreeMap$EntryIterator" "hasNext" "()Z") := own_mk 247 rfl
theorem wd_248 : own_at (Cond.castable "java/util/TreeMap$EntryIterator" "java/util/Iterator") := own_mk 248 rfl
theorem wd_249 : own_at (Cond.code ⟨"java/util/TreeMap$PrivateEntryIterator", "hasNext", "()Z"⟩ jdk_2750_method_2_code 1 (some .boolean)) := own_mk 249 rfl
theorem wd_250 : own_at (Cond.methodLink "com/example/bounded_lock/boundedlock/cli/RoundTimes" 54 ⟨"java/util/Iterator", "next", "()Ljava/lang/Object;"⟩) := own_mk 250 rfl
theorem wd_251 : own_at (Cond.declares ⟨"java/util/Iterator", "next", "()Ljava/lang/Object;"⟩) := own_mk 251 rfl
theorem wd_252 : own_at (Cond.interfaceMethod "java/util/Iterator" "java/util/Iterator" "next" "()Ljava/lang/Object;") := own_mk 252 rfl
theorem wd_253 : own_at (Cond.selects "java/util/TreeMap$EntryIterator" ⟨"java/util/Iterator", "next", "()Ljava/lang/Object;"⟩ ⟨"java/util/TreeMap$EntryIterator", "next", "()Ljava/lang/Object;"⟩) := own_mk 253 rfl
theorem wd_254 : own_at (Cond.instanceMethod ⟨"java/util/TreeMap$EntryIterator", "next", "()Ljava/lang/Object;"⟩) := own_mk 254 rfl
theorem wd_255 : own_at (Cond.publicMethod ⟨"java/util/TreeMap$EntryIterator", "next", "()Ljava/lang/Object;"⟩) := own_mk 255 rfl
theorem wd_256 : own_at (Cond.unhidden "java/util/TreeMap$EntryIterator" "next" "()Ljava/lang/Object;") := own_mk 256 rfl
theorem wd_257 : own_at (Cond.code ⟨"java/util/TreeMap$EntryIterator", "next", "()Ljava/lang/Object;"⟩ jdk_2737_method_3_code 1 (Option.some (FieldType.object "java/lang/Object"))) := own_mk 257 rfl
theorem wd_258 : own_at (Cond.methodLink "java/util/TreeMap$EntryIterator" 13 ⟨"java/util/TreeMap$EntryIterator", "next", "()Ljava/util/Map$Entry;"⟩) := own_mk 258 rfl
theorem wd_259 : own_at (Cond.declares ⟨"java/util/TreeMap$EntryIterator", "next", "()Ljava/util/Map$Entry;"⟩) := own_mk 259 rfl
theorem wd_260 : own_at (Cond.instanceMethod ⟨"java/util/TreeMap$EntryIterator", "next", "()Ljava/util/Map$Entry;"⟩) := own_mk 260 rfl
theorem wd_261 : own_at (Cond.selects "java/util/TreeMap$EntryIterator" ⟨"java/util/TreeMap$EntryIterator", "next", "()Ljava/util/Map$Entry;"⟩ ⟨"java/util/TreeMap$EntryIterator", "next", "()Ljava/util/Map$Entry;"⟩) := own_mk 261 rfl
theorem wd_262 : own_at (Cond.code ⟨"java/util/TreeMap$EntryIterator", "next", "()Ljava/util/Map$Entry;"⟩ jdk_2737_method_2_code 1 (Option.some (FieldType.object "java/util/Map$Entry"))) := own_mk 262 rfl
theorem wd_263 : own_at (Cond.methodLink "java/util/TreeMap$EntryIterator" 7 ⟨"java/util/TreeMap$EntryIterator", "nextEntry", "()Ljava/util/TreeMap$Entry;"⟩) := own_mk 263 rfl
theorem wd_264 : own_at (Cond.sameMethod "java/util/TreeMap$EntryIterator" "java/util/TreeMap$PrivateEntryIterator" "nextEntry" "()Ljava/util/TreeMap$Entry;") := own_mk 264 rfl
theorem wd_265 : own_at (Cond.declares ⟨"java/util/TreeMap$PrivateEntryIterator", "nextEntry", "()Ljava/util/TreeMap$Entry;"⟩) := own_mk 265 rfl
theorem wd_266 : own_at (Cond.instanceMethod ⟨"java/util/TreeMap$PrivateEntryIterator", "nextEntry", "()Ljava/util/TreeMap$Entry;"⟩) := own_mk 266 rfl
theorem wd_267 : own_at (Cond.selects "java/util/TreeMap$EntryIterator" ⟨"java/util/TreeMap$EntryIterator", "nextEntry", "()Ljava/util/TreeMap$Entry;"⟩ ⟨"java/util/TreeMap$PrivateEntryIterator", "nextEntry", "()Ljava/util/TreeMap$Entry;"⟩) := own_mk 267 rfl
theorem wd_268 : own_at (Cond.code ⟨"java/util/TreeMap$PrivateEntryIterator", "nextEntry", "()Ljava/util/TreeMap$Entry;"⟩ jdk_2750_method_3_code 2 (Option.some (FieldType.object "java/util/TreeMap$Entry"))) := own_mk 268 rfl
theorem wd_269 : own_at (Cond.methodLink "java/util/TreeMap$PrivateEntryIterator" 35 ⟨"java/util/TreeMap", "successor", "(Ljava/util/TreeMap$Entry;)Ljava/util/TreeMap$Entry;"⟩) := own_mk 269 rfl
theorem wd_270 : own_at (Cond.static ⟨"java/util/TreeMap", "successor", "(Ljava/util/TreeMap$Entry;)Ljava/util/TreeMap$Entry;"⟩) := own_mk 270 rfl
theorem wd_271 : own_at (Cond.code ⟨"java/util/TreeMap", "successor", "(Ljava/util/TreeMap$Entry;)Ljava/util/TreeMap$Entry;"⟩ jdk_2729_method_74_code 3 (Option.some (FieldType.object "java/util/TreeMap$Entry"))) := own_mk 271 rfl
theorem wd_272 : own_at (Cond.classLink "com/example/bounded_lock/boundedlock/cli/RoundTimes" 58 "java/util/Map$Entry") := own_mk 272 rfl
theorem wd_273 : own_at (Cond.castable "java/util/TreeMap$Entry" "java/util/Map$Entry") := own_mk 273 rfl
theorem wd_274 : own_at (Cond.methodLink "com/example/bounded_lock/boundedlock/cli/RoundTimes" 63 ⟨"java/util/Map$Entry", "getValue", "()Ljava/lang/Object;"⟩) := own_mk 274 rfl
theorem wd_275 : own_at (Cond.declares ⟨"java/util/Map$Entry", "getValue", "()Ljava/lang/Object;"⟩) := own_mk 275 rfl
theorem wd_276 : own_at (Cond.interfaceMethod "java/util/Map$Entry" "java/util/Map$Entry" "getValue" "()Ljava/lang/Object;") := own_mk 276 rfl
theorem wd_277 : own_at (Cond.selects "java/util/TreeMap$Entry" ⟨"java/util/Map$Entry", "getValue", "()Ljava/lang/Object;"⟩ ⟨"java/util/TreeMap$Entry", "getValue", "()Ljava/lang/Object;"⟩) := own_mk 277 rfl
theorem wd_278 : own_at (Cond.instanceMethod ⟨"java/util/TreeMap$Entry", "getValue", "()Ljava/lang/Object;"⟩) := own_mk 278 rfl
theorem wd_279 : own_at (Cond.publicMethod ⟨"java/util/TreeMap$Entry", "getValue", "()Ljava/lang/Object;"⟩) := own_mk 279 rfl
theorem wd_280 : own_at (Cond.unhidden "java/util/TreeMap$Entry" "getValue" "()Ljava/lang/Object;") := own_mk 280 rfl
theorem wd_281 : own_at (Cond.code ⟨"java/util/TreeMap$Entry", "getValue", "()Ljava/lang/Object;"⟩ jdk_2736_method_3_code 1 (Option.some (FieldType.object "java/lang/Object"))) := own_mk 281 rfl
theorem wd_282 : own_at (Cond.classLink "com/example/bounded_lock/boundedlock/cli/RoundTimes" 21 "java/lang/Long") := own_mk 282 rfl
theorem wd_283 : own_at (Cond.methodLink "com/example/bounded_lock/boundedlock/cli/RoundTimes" 76 ⟨"java/lang/Long", "longValue", "()J"⟩) := own_mk 283 rfl
theorem wd_284 : own_at (Cond.declares ⟨"java/lang/Long", "longValue", "()J"⟩) := own_mk 284 rfl
theorem wd_285 : own_at (Cond.instanceMethod ⟨"java/lang/Long", "longValue", "()J"⟩) := own_mk 285 rfl
theorem wd_286 : own_at (Cond.selects "java/lang/Long" ⟨"java/lang/Long", "longValue", "()J"⟩ ⟨"java/lang/Long", "longValue", "()J"⟩) := own_mk 286 rfl
theorem wd_287 : own_at (Cond.code ⟨"java/lang/Long", "longValue", "()J"⟩ jdk_35_method_31_code 1 (some .long)) := own_mk 287 rfl
theorem wd_288 : own_at (Cond.methodLink "com/example/bounded_lock/boundedlock/cli/RoundTimes" 60 ⟨"java/util/Map$Entry", "getKey", "()Ljava/lang/Object;"⟩) := own_mk 288 rfl
theorem wd_289 : own_at (Cond.declares ⟨"java/util/Map$Entry", "getKey", "()Ljava/lang/Object;"⟩) := own_mk 289 rfl
theorem wd_290 : own_at (Cond.interfaceMethod "java/util/Map$Entry" "java/util/Map$Entry" "getKey" "()Ljava/lang/Object;") := own_mk 290 rfl
theorem wd_291 : own_at (Cond.selects "java/util/TreeMap$Entry" ⟨"java/util/Map$Entry", "getKey", "()Ljava/lang/Object;"⟩ ⟨"java/util/TreeMap$Entry", "getKey", "()Ljava/lang/Object;"⟩) := own_mk 291 rfl
theorem wd_292 : own_at (Cond.instanceMethod ⟨"java/util/TreeMap$Entry", "getKey", "()Ljava/lang/Object;"⟩) := own_mk 292 rfl
theorem wd_293 : own_at (Cond.publicMethod ⟨"java/util/TreeMap$Entry", "getKey", "()Ljava/lang/Object;"⟩) := own_mk 293 rfl
theorem wd_294 : own_at (Cond.unhidden "java/util/TreeMap$Entry" "getKey" "()Ljava/lang/Object;") := own_mk 294 rfl
theorem wd_295 : own_at (Cond.code ⟨"java/util/TreeMap$Entry", "getKey", "()Ljava/lang/Object;"⟩ jdk_2736_method_2_code 1 (Option.some (FieldType.object "java/lang/Object"))) := own_mk 295 rfl
theorem wd_296 : own_at (Cond.methodLink "java/util/TreeMap" 294 ⟨"java/util/TreeMap", "parentOf", "(Ljava/util/TreeMap$Entry;)Ljava/util/TreeMap$Entry;"⟩) := own_mk 296 rfl
theorem wd_297 : own_at (Cond.static ⟨"java/util/TreeMap", "parentOf", "(Ljava/util/TreeMap$Entry;)Ljava/util/TreeMap$Entry;"⟩) := own_mk 297 rfl
theorem wd_298 : own_at (Cond.code ⟨"java/util/TreeMap", "parentOf", "(Ljava/util/TreeMap$Entry;)Ljava/util/TreeMap$Entry;"⟩ jdk_2729_method_77_code 1 (Option.some (FieldType.object "java/util/TreeMap$Entry"))) := own_mk 298 rfl
theorem wd_299 : own_at (Cond.methodLink "java/util/TreeMap" 297 ⟨"java/util/TreeMap", "leftOf", "(Ljava/util/TreeMap$Entry;)Ljava/util/TreeMap$Entry;"⟩) := own_mk 299 rfl
theorem wd_300 : own_at (Cond.static ⟨"java/util/TreeMap", "leftOf", "(Ljava/util/TreeMap$Entry;)Ljava/util/TreeMap$Entry;"⟩) := own_mk 300 rfl
theorem wd_301 : own_at (Cond.code ⟨"java/util/TreeMap", "leftOf", "(Ljava/util/TreeMap$Entry;)Ljava/util/TreeMap$Entry;"⟩ jdk_2729_method_79_code 1 (Option.some (FieldType.object "java/util/TreeMap$Entry"))) := own_mk 301 rfl
theorem wd_302 : own_at (Cond.methodLink "java/util/TreeMap" 303 ⟨"java/util/TreeMap", "colorOf", "(Ljava/util/TreeMap$Entry;)Z"⟩) := own_mk 302 rfl
theorem wd_303 : own_at (Cond.static ⟨"java/util/TreeMap", "colorOf", "(Ljava/util/TreeMap$Entry;)Z"⟩) := own_mk 303 rfl
theorem wd_304 : own_at (Cond.code ⟨"java/util/TreeMap", "colorOf", "(Ljava/util/TreeMap$Entry;)Z"⟩ jdk_2729_method_76_code 1 (some .boolean)) := own_mk 304 rfl
theorem wd_305 : own_at (Cond.methodLink "java/util/TreeMap" 307 ⟨"java/util/TreeMap", "setColor", "(Ljava/util/TreeMap$Entry;Z)V"⟩) := own_mk 305 rfl
theorem wd_306 : own_at (Cond.static ⟨"java/util/TreeMap", "setColor", "(Ljava/util/TreeMap$Entry;Z)V"⟩) := own_mk 306 rfl
theorem wd_307 : own_at (Cond.code ⟨"java/util/TreeMap", "setColor", "(Ljava/util/TreeMap$Entry;Z)V"⟩ jdk_2729_method_78_code 2 none) := own_mk 307 rfl
theorem wd_308 : own_at (Cond.methodLink "java/util/TreeMap" 311 ⟨"java/util/TreeMap", "rotateLeft", "(Ljava/util/TreeMap$Entry;)V"⟩) := own_mk 308 rfl
theorem wd_309 : own_at (Cond.instanceMethod ⟨"java/util/TreeMap", "rotateLeft", "(Ljava/util/TreeMap$Entry;)V"⟩) := own_mk 309 rfl
theorem wd_310 : own_at (Cond.privateMethod ⟨"java/util/TreeMap", "rotateLeft", "(Ljava/util/TreeMap$Entry;)V"⟩) := own_mk 310 rfl
theorem wd_311 : own_at (Cond.selects "java/util/TreeMap" ⟨"java/util/TreeMap", "rotateLeft", "(Ljava/util/TreeMap$Entry;)V"⟩ ⟨"java/util/TreeMap", "rotateLeft", "(Ljava/util/TreeMap$Entry;)V"⟩) := own_mk 311 rfl
theorem wd_312 : own_at (Cond.code ⟨"java/util/TreeMap", "rotateLeft", "(Ljava/util/TreeMap$Entry;)V"⟩ jdk_2729_method_81_code 3 none) := own_mk 312 rfl
theorem wd_313 : own_at (Cond.methodLink "java/util/TreeMap" 314 ⟨"java/util/TreeMap", "rotateRight", "(Ljava/util/TreeMap$Entry;)V"⟩) := own_mk 313 rfl
theorem wd_314 : own_at (Cond.instanceMethod ⟨"java/util/TreeMap", "rotateRight", "(Ljava/util/TreeMap$Entry;)V"⟩) := own_mk 314 rfl
theorem wd_315 : own_at (Cond.privateMethod ⟨"java/util/TreeMap", "rotateRight", "(Ljava/util/TreeMap$Entry;)V"⟩) := own_mk 315 rfl
theorem wd_316 : own_at (Cond.selects "java/util/TreeMap" ⟨"java/util/TreeMap", "rotateRight", "(Ljava/util/TreeMap$Entry;)V"⟩ ⟨"java/util/TreeMap", "rotateRight", "(Ljava/util/TreeMap$Entry;)V"⟩) := own_mk 316 rfl
theorem wd_317 : own_at (Cond.code ⟨"java/util/TreeMap", "rotateRight", "(Ljava/util/TreeMap$Entry;)V"⟩ jdk_2729_method_82_code 3 none) := own_mk 317 rfl
theorem wd_318 : own_at (Cond.methodLink "java/util/TreeMap" 300 ⟨"java/util/TreeMap", "rightOf", "(Ljava/util/TreeMap$Entry;)Ljava/util/TreeMap$Entry;"⟩) := own_mk 318 rfl
theorem wd_319 : own_at (Cond.static ⟨"java/util/TreeMap", "rightOf", "(Ljava/util/TreeMap$Entry;)Ljava/util/TreeMap$Entry;"⟩) := own_mk 319 rfl
theorem wd_320 : own_at (Cond.code ⟨"java/util/TreeMap", "rightOf", "(Ljava/util/TreeMap$Entry;)Ljava/util/TreeMap$Entry;"⟩ jdk_2729_method_80_code 1 (Option.some (FieldType.object "java/util/TreeMap$Entry"))) := own_mk 320 rfl
theorem d_0 : Dc code 0 (.lload_n 0) 1 1 := ⟨at_0, rfl⟩
theorem d_1 : Dc code 1 (.ldc2_w 11) 3 4 := ⟨at_1, rfl⟩
theorem d_4 : Dc code 4 (.land) 1 5 := ⟨at_4, rfl⟩
theorem d_5 : Dc code 5 (.lstore 6) 2 7 := ⟨at_5, rfl⟩
theorem d_7 : Dc code 7 (.lload_n 2) 1 8 := ⟨at_7, rfl⟩
theorem d_8 : Dc code 8 (.ldc2_w 11) 3 11 := ⟨at_8, rfl⟩
theorem d_11 : Dc code 11 (.land) 1 12 := ⟨at_11, rfl⟩
theorem d_12 : Dc code 12 (.lstore 8) 2 14 := ⟨at_12, rfl⟩
theorem d_14 : Dc code 14 (.lload 4) 2 16 := ⟨at_14, rfl⟩
theorem d_16 : Dc code 16 (.ldc2_w 11) 3 19 := ⟨at_16, rfl⟩
theorem d_19 : Dc code 19 (.land) 1 20 := ⟨at_19, rfl⟩
theorem d_20 : Dc code 20 (.lstore 10) 2 22 := ⟨at_20, rfl⟩
theorem d_22 : Dc code 22 (.lload 6) 2 24 := ⟨at_22, rfl⟩
theorem d_24 : Dc code 24 (.invokestatic 13) 3 27 := ⟨at_24, rfl⟩
theorem d_27 : Dc code 27 (.lstore 12) 2 29 := ⟨at_27, rfl⟩
theorem d_29 : Dc code 29 (.lload 8) 2 31 := ⟨at_29, rfl⟩
theorem d_31 : Dc code 31 (.invokestatic 13) 3 34 := ⟨at_31, rfl⟩
theorem d_34 : Dc code 34 (.lstore 14) 2 36 := ⟨at_34, rfl⟩
theorem d_36 : Dc code 36 (.lload 10) 2 38 := ⟨at_36, rfl⟩
theorem d_38 : Dc code 38 (.invokestatic 13) 3 41 := ⟨at_38, rfl⟩
theorem d_41 : Dc code 41 (.lstore 16) 2 43 := ⟨at_41, rfl⟩
theorem d_43 : Dc code 43 (.lload 12) 2 45 := ⟨at_43, rfl⟩
theorem d_45 : Dc code 45 (.lload 14) 2 47 := ⟨at_45, rfl⟩
theorem d_47 : Dc code 47 (.lload 16) 2 49 := ⟨at_47, rfl⟩
theorem d_49 : Dc code 49 (.invokestatic 19) 3 52 := ⟨at_49, rfl⟩
theorem d_52 : Dc code 52 (.invokestatic 19) 3 55 := ⟨at_52, rfl⟩
theorem d_55 : Dc code 55 (.lstore 18) 2 57 := ⟨at_55, rfl⟩
theorem d_57 : Dc code 57 (.lload 12) 2 59 := ⟨at_57, rfl⟩
theorem d_59 : Dc code 59 (.lload 14) 2 61 := ⟨at_59, rfl⟩
theorem d_61 : Dc code 61 (.lload 16) 2 63 := ⟨at_61, rfl⟩
theorem d_63 : Dc code 63 (.invokestatic 25) 3 66 := ⟨at_63, rfl⟩
theorem d_66 : Dc code 66 (.invokestatic 25) 3 69 := ⟨at_66, rfl⟩
theorem d_69 : Dc code 69 (.lstore 20) 2 71 := ⟨at_69, rfl⟩
theorem d_71 : Dc code 71 (.lload 12) 2 73 := ⟨at_71, rfl⟩
theorem d_73 : Dc code 73 (.lload 14) 2 75 := ⟨at_73, rfl⟩
theorem d_75 : Dc code 75 (.ladd) 1 76 := ⟨at_75, rfl⟩
theorem d_76 : Dc code 76 (.lload 16) 2 78 := ⟨at_76, rfl⟩
theorem d_78 : Dc code 78 (.ladd) 1 79 := ⟨at_78, rfl⟩
theorem d_79 : Dc code 79 (.lload 18) 2 81 := ⟨at_79, rfl⟩
theorem d_81 : Dc code 81 (.lsub) 1 82 := ⟨at_81, rfl⟩
theorem d_82 : Dc code 82 (.lload 20) 2 84 := ⟨at_82, rfl⟩
theorem d_84 : Dc code 84 (.lsub) 1 85 := ⟨at_84, rfl⟩
theorem d_85 : Dc code 85 (.lstore 22) 2 87 := ⟨at_85, rfl⟩
theorem d_87 : Dc code 87 (.new 28) 3 90 := ⟨at_87, rfl⟩
theorem d_90 : Dc code 90 (.dup) 1 91 := ⟨at_90, rfl⟩
theorem d_91 : Dc code 91 (.invokespecial 30) 3 94 := ⟨at_91, rfl⟩
theorem d_94 : Dc code 94 (.astore 24) 2 96 := ⟨at_94, rfl⟩
theorem d_96 : Dc code 96 (.aload 24) 2 98 := ⟨at_96, rfl⟩
theorem d_98 : Dc code 98 (.lload 6) 2 100 := ⟨at_98, rfl⟩
theorem d_100 : Dc code 100 (.invokevirtual 31) 3 103 := ⟨at_100, rfl⟩
theorem d_103 : Dc code 103 (.aload 24) 2 105 := ⟨at_103, rfl⟩
theorem d_105 : Dc code 105 (.invokevirtual 35) 3 108 := ⟨at_105, rfl⟩
theorem d_108 : Dc code 108 (.lconst 1) 1 109 := ⟨at_108, rfl⟩
theorem d_109 : Dc code 109 (.lcmp) 1 110 := ⟨at_109, rfl⟩
theorem d_110 : Bc code 110 (.ifCond .ne) 117 113 := ⟨7, at_110, by decide, by decide, rfl⟩
theorem d_113 : Dc code 113 (.iconst 1) 1 114 := ⟨at_113, rfl⟩
theorem d_114 : Bc code 114 (.goto) 118 117 := ⟨4, at_114, by decide, by decide, rfl⟩
theorem d_118 : Dc code 118 (.istore 25) 2 120 := ⟨at_118, rfl⟩
theorem d_120 : Dc code 120 (.aload 24) 2 122 := ⟨at_120, rfl⟩
theorem d_122 : Dc code 122 (.lload 8) 2 124 := ⟨at_122, rfl⟩
theorem d_124 : Dc code 124 (.invokevirtual 31) 3 127 := ⟨at_124, rfl⟩
theorem d_127 : Dc code 127 (.aload 24) 2 129 := ⟨at_127, rfl⟩
theorem d_129 : Dc code 129 (.lload 10) 2 131 := ⟨at_129, rfl⟩
theorem d_131 : Dc code 131 (.invokevirtual 31) 3 134 := ⟨at_131, rfl⟩
theorem d_134 : Dc code 134 (.iload 25) 2 136 := ⟨at_134, rfl⟩
theorem d_136 : Bc code 136 (.ifCond .eq) 155 139 := ⟨19, at_136, by decide, by decide, rfl⟩
theorem d_139 : Dc code 139 (.aload 24) 2 141 := ⟨at_139, rfl⟩
theorem d_141 : Dc code 141 (.invokevirtual 35) 3 144 := ⟨at_141, rfl⟩
theorem d_144 : Dc code 144 (.ldc2_w 39) 3 147 := ⟨at_144, rfl⟩
theorem d_147 : Dc code 147 (.lcmp) 1 148 := ⟨at_147, rfl⟩
theorem d_148 : Bc code 148 (.ifCond .ne) 155 151 := ⟨7, at_148, by decide, by decide, rfl⟩
theorem d_151 : Dc code 151 (.iconst 1) 1 152 := ⟨at_151, rfl⟩
theorem d_152 : Bc code 152 (.goto) 156 155 := ⟨4, at_152, by decide, by decide, rfl⟩
theorem d_156 : Dc code 156 (.istore 25) 2 158 := ⟨at_156, rfl⟩
theorem d_158 : Dc code 158 (.iload 25) 2 160 := ⟨at_158, rfl⟩
theorem d_160 : Bc code 160 (.ifCond .eq) 179 163 := ⟨19, at_160, by decide, by decide, rfl⟩
theorem d_163 : Dc code 163 (.aload 24) 2 165 := ⟨at_163, rfl⟩
theorem d_165 : Dc code 165 (.iconst 1) 1 166 := ⟨at_165, rfl⟩
theorem d_166 : Dc code 166 (.invokevirtual 41) 3 169 := ⟨at_166, rfl⟩
theorem d_169 : Dc code 169 (.lload 18) 2 171 := ⟨at_169, rfl⟩
theorem d_171 : Dc code 171 (.lcmp) 1 172 := ⟨at_171, rfl⟩
theorem d_172 : Bc code 172 (.ifCond .ne) 179 175 := ⟨7, at_172, by decide, by decide, rfl⟩
theorem d_175 : Dc code 175 (.iconst 1) 1 176 := ⟨at_175, rfl⟩
theorem d_176 : Bc code 176 (.goto) 180 179 := ⟨4, at_176, by decide, by decide, rfl⟩
theorem d_180 : Dc code 180 (.istore 25) 2 182 := ⟨at_180, rfl⟩
theorem d_182 : Dc code 182 (.iload 25) 2 184 := ⟨at_182, rfl⟩
theorem d_184 : Bc code 184 (.ifCond .eq) 204 187 := ⟨20, at_184, by decide, by decide, rfl⟩
theorem d_187 : Dc code 187 (.aload 24) 2 189 := ⟨at_187, rfl⟩
theorem d_189 : Dc code 189 (.bipush 50) 2 191 := ⟨at_189, rfl⟩
theorem d_191 : Dc code 191 (.invokevirtual 41) 3 194 := ⟨at_191, rfl⟩
theorem d_194 : Dc code 194 (.lload 22) 2 196 := ⟨at_194, rfl⟩
theorem d_196 : Dc code 196 (.lcmp) 1 197 := ⟨at_196, rfl⟩
theorem d_197 : Bc code 197 (.ifCond .ne) 204 200 := ⟨7, at_197, by decide, by decide, rfl⟩
theorem d_200 : Dc code 200 (.iconst 1) 1 201 := ⟨at_200, rfl⟩
theorem d_201 : Bc code 201 (.goto) 205 204 := ⟨4, at_201, by decide, by decide, rfl⟩
theorem d_205 : Dc code 205 (.istore 25) 2 207 := ⟨at_205, rfl⟩
theorem d_207 : Dc code 207 (.iload 25) 2 209 := ⟨at_207, rfl⟩
theorem d_209 : Bc code 209 (.ifCond .eq) 229 212 := ⟨20, at_209, by decide, by decide, rfl⟩
theorem d_212 : Dc code 212 (.aload 24) 2 214 := ⟨at_212, rfl⟩
theorem d_214 : Dc code 214 (.bipush 100) 2 216 := ⟨at_214, rfl⟩
theorem d_216 : Dc code 216 (.invokevirtual 41) 3 219 := ⟨at_216, rfl⟩
theorem d_219 : Dc code 219 (.lload 20) 2 221 := ⟨at_219, rfl⟩
theorem d_221 : Dc code 221 (.lcmp) 1 222 := ⟨at_221, rfl⟩
theorem d_222 : Bc code 222 (.ifCond .ne) 229 225 := ⟨7, at_222, by decide, by decide, rfl⟩
theorem d_225 : Dc code 225 (.iconst 1) 1 226 := ⟨at_225, rfl⟩
theorem d_226 : Bc code 226 (.goto) 230 229 := ⟨4, at_226, by decide, by decide, rfl⟩
theorem d_230 : Dc code 230 (.istore 25) 2 232 := ⟨at_230, rfl⟩
theorem d_232 : Dc code 232 (.iload 25) 2 234 := ⟨at_232, rfl⟩
theorem d_234 : Dc code 234 (.ireturn) 1 235 := ⟨at_234, rfl⟩
theorem k18_1_0 : Dc jdk_18_method_1_code 0 (.aload_n 0) 1 1 := ⟨by decide +kernel, rfl⟩
theorem k18_1_1 : Dc jdk_18_method_1_code 1 (.invokespecial 1) 3 4 := ⟨by decide +kernel, rfl⟩
theorem k18_1_4 : Dc jdk_18_method_1_code 4 (.return_) 1 5 := ⟨by decide +kernel, rfl⟩
theorem k22_1_0 : Dc jdk_22_method_1_code 0 (.aload_n 0) 1 1 := ⟨by decide +kernel, rfl⟩
theorem k22_1_1 : Dc jdk_22_method_1_code 1 (.invokespecial 1) 3 4 := ⟨by decide +kernel, rfl⟩
theorem k22_1_4 : Dc jdk_22_method_1_code 4 (.return_) 1 5 := ⟨by decide +kernel, rfl⟩
theorem k2729_1_0 : Dc jdk_2729_method_1_code 0 (.aload_n 0) 1 1 := ⟨by decide +kernel, rfl⟩
theorem k2729_1_1 : Dc jdk_2729_method_1_code 1 (.invokespecial 1) 3 4 := ⟨by decide +kernel, rfl⟩
theorem k2729_1_4 : Dc jdk_2729_method_1_code 4 (.aload_n 0) 1 5 := ⟨by decide +kernel, rfl⟩
theorem k2729_1_5 : Dc jdk_2729_method_1_code 5 (.iconst 0) 1 6 := ⟨by decide +kernel, rfl⟩
theorem k2729_1_6 : Dc jdk_2729_method_1_code 6 (.putfield 7) 3 9 := ⟨by decide +kernel, rfl⟩
theorem k2729_1_9 : Dc jdk_2729_method_1_code 9 (.aload_n 0) 1 10 := ⟨by decide +kernel, rfl⟩
theorem k2729_1_10 : Dc jdk_2729_method_1_code 10 (.iconst 0) 1 11 := ⟨by decide +kernel, rfl⟩
theorem k2729_1_11 : Dc jdk_2729_method_1_code 11 (.putfield 13) 3 14 := ⟨by decide +kernel, rfl⟩
theorem k2729_1_14 : Dc jdk_2729_method_1_code 14 (.aload_n 0) 1 15 := ⟨by decide +kernel, rfl⟩
theorem k2729_1_15 : Dc jdk_2729_method_1_code 15 (.aconst_null) 1 16 := ⟨by decide +kernel, rfl⟩
theorem k2729_1_16 : Dc jdk_2729_method_1_code 16 (.putfield 16) 3 19 := ⟨by decide +kernel, rfl⟩
theorem k2729_1_19 : Dc jdk_2729_method_1_code 19 (.return_) 1 20 := ⟨by decide +kernel, rfl⟩
theorem k2729_26_0 : Dc jdk_2729_method_26_code 0 (.aload_n 3) 1 1 := ⟨by decide +kernel, rfl⟩
theorem k2729_26_1 : Dc jdk_2729_method_26_code 1 (.invokestatic 95) 3 4 := ⟨by decide +kernel, rfl⟩
theorem k2729_26_4 : Dc jdk_2729_method_26_code 4 (.pop) 1 5 := ⟨by decide +kernel, rfl⟩
theorem k2729_26_5 : Dc jdk_2729_method_26_code 5 (.aload_n 2) 1 6 := ⟨by decide +kernel, rfl⟩
theorem k2729_26_6 : Dc jdk_2729_method_26_code 6 (.invokestatic 95) 3 9 := ⟨by decide +kernel, rfl⟩
theorem k2729_26_9 : Dc jdk_2729_method_26_code 9 (.pop) 1 10 := ⟨by decide +kernel, rfl⟩
theorem k2729_26_10 : Dc jdk_2729_method_26_code 10 (.aload_n 0) 1 11 := ⟨by decide +kernel, rfl⟩
theorem k2729_26_11 : Dc jdk_2729_method_26_code 11 (.getfield 101) 3 14 := ⟨by decide +kernel, rfl⟩
theorem k2729_26_14 : Dc jdk_2729_method_26_code 14 (.astore 4) 2 16 := ⟨by decide +kernel, rfl⟩
theorem k2729_26_16 : Dc jdk_2729_method_26_code 16 (.aload 4) 2 18 := ⟨by decide +kernel, rfl⟩
theorem k2729_26_18 : Bc jdk_2729_method_26_code 18 (.ifnonnull) 29 21 := ⟨11, by decide +kernel, by decide, by decide, rfl⟩
theorem k2729_26_21 : Dc jdk_2729_method_26_code 21 (.aload_n 0) 1 22 := ⟨by decide +kernel, rfl⟩
theorem k2729_26_22 : Dc jdk_2729_method_26_code 22 (.aload_n 1) 1 23 := ⟨by decide +kernel, rfl⟩
theorem k2729_26_23 : Dc jdk_2729_method_26_code 23 (.aload_n 2) 1 24 := ⟨by decide +kernel, rfl⟩
theorem k2729_26_24 : Dc jdk_2729_method_26_code 24 (.invokevirtual 135) 3 27 := ⟨by decide +kernel, rfl⟩
theorem k2729_26_27 : Dc jdk_2729_method_26_code 27 (.aload_n 2) 1 28 := ⟨by decide +kernel, rfl⟩
theorem k2729_26_28 : Dc jdk_2729_method_26_code 28 (.areturn) 1 29 := ⟨by decide +kernel, rfl⟩
theorem k2729_26_29 : Dc jdk_2729_method_26_code 29 (.aload_n 0) 1 30 := ⟨by decide +kernel, rfl⟩
theorem k2729_26_30 : Dc jdk_2729_method_26_code 30 (.getfield 16) 3 33 := ⟨by decide +kernel, rfl⟩
theorem k2729_26_33 : Dc jdk_2729_method_26_code 33 (.astore 7) 2 35 := ⟨by decide +kernel, rfl⟩
theorem k2729_26_35 : Dc jdk_2729_method_26_code 35 (.aload 7) 2 37 := ⟨by decide +kernel, rfl⟩
theorem k2729_26_37 : Bc jdk_2729_method_26_code 37 (.ifnull) 106 40 := ⟨69, by decide +kernel, by decide, by decide, rfl⟩
theorem k2729_26_106 : Dc jdk_2729_method_26_code 106 (.aload_n 1) 1 107 := ⟨by decide +kernel, rfl⟩
theorem k2729_26_107 : Dc jdk_2729_method_26_code 107 (.invokestatic 95) 3 110 := ⟨by decide +kernel, rfl⟩
theorem k2729_26_110 : Dc jdk_2729_method_26_code 110 (.pop) 1 111 := ⟨by decide +kernel, rfl⟩
theorem k2729_26_111 : Dc jdk_2729_method_26_code 111 (.aload_n 1) 1 112 := ⟨by decide +kernel, rfl⟩
theorem k2729_26_112 : Dc jdk_2729_method_26_code 112 (.checkcast 99) 3 115 := ⟨by decide +kernel, rfl⟩
theorem k2729_26_115 : Dc jdk_2729_method_26_code 115 (.astore 8) 2 117 := ⟨by decide +kernel, rfl⟩
theorem k2729_26_117 : Dc jdk_2729_method_26_code 117 (.aload 4) 2 119 := ⟨by decide +kernel, rfl⟩
theorem k2729_26_119 : Dc jdk_2729_method_26_code 119 (.astore 6) 2 121 := ⟨by decide +kernel, rfl⟩
theorem k2729_26_121 : Dc jdk_2729_method_26_code 121 (.aload 8) 2 123 := ⟨by decide +kernel, rfl⟩
theorem k2729_26_123 : Dc jdk_2729_method_26_code 123 (.aload 4) 2 125 := ⟨by decide +kernel, rfl⟩
theorem k2729_26_125 : Dc jdk_2729_method_26_code 125 (.getfield 105) 3 128 := ⟨by decide +kernel, rfl⟩
theorem k2729_26_128 : Dc jdk_2729_method_26_code 128 (.invokeinterface 107 2) 5 133 := ⟨by decide +kernel, rfl⟩
theorem k2729_26_133 : Dc jdk_2729_method_26_code 133 (.istore 5) 2 135 := ⟨by decide +kernel, rfl⟩
theorem k2729_26_135 : Dc jdk_2729_method_26_code 135 (.iload 5) 2 137 := ⟨by decide +kernel, rfl⟩
theorem k2729_26_137 : Bc jdk_2729_method_26_code 137 (.ifCond .ge) 150 140 := ⟨13, by decide +kernel, by decide, by decide, rfl⟩
theorem k2729_26_140 : Dc jdk_2729_method_26_code 140 (.aload 4) 2 142 := ⟨by decide +kernel, rfl⟩
theorem k2729_26_142 : Dc jdk_2729_method_26_code 142 (.getfield 111) 3 145 := ⟨by decide +kernel, rfl⟩
theorem k2729_26_145 : Dc jdk_2729_method_26_code 145 (.astore 4) 2 147 := ⟨by decide +kernel, rfl⟩
theorem k2729_26_147 : Bc jdk_2729_method_26_code 147 (.goto) 174 150 := ⟨27, by decide +kernel, by decide, by decide, rfl⟩
theorem k2729_26_150 : Dc jdk_2729_method_26_code 150 (.iload 5) 2 152 := ⟨by decide +kernel, rfl⟩
theorem k2729_26_152 : Bc jdk_2729_method_26_code 152 (.ifCond .le) 165 155 := ⟨13, by decide +kernel, by decide, by decide, rfl⟩
theorem k2729_26_155 : Dc jdk_2729_method_26_code 155 (.aload 4) 2 157 := ⟨by decide +kernel, rfl⟩
theorem k2729_26_157 : Dc jdk_2729_method_26_code 157 (.getfield 114) 3 160 := ⟨by decide +kernel, rfl⟩
theorem k2729_26_160 : Dc jdk_2729_method_26_code 160 (.astore 4) 2 162 := ⟨by decide +kernel, rfl⟩
theorem k2729_26_162 : Bc jdk_2729_method_26_code 162 (.goto) 174 165 := ⟨12, by decide +kernel, by decide, by decide, rfl⟩
theorem k2729_26_165 : Dc jdk_2729_method_26_code 165 (.aload_n 0) 1 166 := ⟨by decide +kernel, rfl⟩
theorem k2729_26_166 : Dc jdk_2729_method_26_code 166 (.aload 4) 2 168 := ⟨by decide +kernel, rfl⟩
theorem k2729_26_168 : Dc jdk_2729_method_26_code 168 (.aload_n 2) 1 169 := ⟨by decide +kernel, rfl⟩
theorem k2729_26_169 : Dc jdk_2729_method_26_code 169 (.aload_n 3) 1 170 := ⟨by decide +kernel, rfl⟩
theorem k2729_26_170 : Dc jdk_2729_method_26_code 170 (.invokevirtual 151) 3 173 := ⟨by decide +kernel, rfl⟩
theorem k2729_26_173 : Dc jdk_2729_method_26_code 173 (.areturn) 1 174 := ⟨by decide +kernel, rfl⟩
theorem k2729_26_174 : Dc jdk_2729_method_26_code 174 (.aload 4) 2 176 := ⟨by decide +kernel, rfl⟩
theorem k2729_26_176 : Bc jdk_2729_method_26_code 176 (.ifnonnull) 117 179 := ⟨(-59), by decide +kernel, by decide, by decide, rfl⟩
theorem k2729_26_179 : Dc jdk_2729_method_26_code 179 (.aload_n 0) 1 180 := ⟨by decide +kernel, rfl⟩
theorem k2729_26_180 : Dc jdk_2729_method_26_code 180 (.aload_n 1) 1 181 := ⟨by decide +kernel, rfl⟩
theorem k2729_26_181 : Dc jdk_2729_method_26_code 181 (.aload_n 2) 1 182 := ⟨by decide +kernel, rfl⟩
theorem k2729_26_182 : Dc jdk_2729_method_26_code 182 (.aload 6) 2 184 := ⟨by decide +kernel, rfl⟩
theorem k2729_26_184 : Dc jdk_2729_method_26_code 184 (.iload 5) 2 186 := ⟨by decide +kernel, rfl⟩
theorem k2729_26_186 : Bc jdk_2729_method_26_code 186 (.ifCond .ge) 193 189 := ⟨7, by decide +kernel, by decide, by decide, rfl⟩
theorem k2729_26_189 : Dc jdk_2729_method_26_code 189 (.iconst 1) 1 190 := ⟨by decide +kernel, rfl⟩
theorem k2729_26_190 : Bc jdk_2729_method_26_code 190 (.goto) 194 193 := ⟨4, by decide +kernel, by decide, by decide, rfl⟩
theorem k2729_26_193 : Dc jdk_2729_method_26_code 193 (.iconst 0) 1 194 := ⟨by decide +kernel, rfl⟩
theorem k2729_26_194 : Dc jdk_2729_method_26_code 194 (.invokevirtual 139) 3 197 := ⟨by decide +kernel, rfl⟩
theorem k2729_26_197 : Dc jdk_2729_method_26_code 197 (.aload_n 2) 1 198 := ⟨by decide +kernel, rfl⟩
theorem k2729_26_198 : Dc jdk_2729_method_26_code 198 (.areturn) 1 199 := ⟨by decide +kernel, rfl⟩
theorem k2729_29_0 : Dc jdk_2729_method_29_code 0 (.new 59) 3 3 := ⟨by decide +kernel, rfl⟩
theorem k2729_29_3 : Dc jdk_2729_method_29_code 3 (.dup) 1 4 := ⟨by decide +kernel, rfl⟩
theorem k2729_29_4 : Dc jdk_2729_method_29_code 4 (.aload_n 1) 1 5 := ⟨by decide +kernel, rfl⟩
theorem k2729_29_5 : Dc jdk_2729_method_29_code 5 (.aload_n 2) 1 6 := ⟨by decide +kernel, rfl⟩
theorem k2729_29_6 : Dc jdk_2729_method_29_code 6 (.aload_n 3) 1 7 := ⟨by decide +kernel, rfl⟩
theorem k2729_29_7 : Dc jdk_2729_method_29_code 7 (.invokespecial 167) 3 10 := ⟨by decide +kernel, rfl⟩
theorem k2729_29_10 : Dc jdk_2729_method_29_code 10 (.astore 5) 2 12 := ⟨by decide +kernel, rfl⟩
theorem k2729_29_12 : Dc jdk_2729_method_29_code 12 (.iload 4) 2 14 := ⟨by decide +kernel, rfl⟩
theorem k2729_29_14 : Bc jdk_2729_method_29_code 14 (.ifCond .eq) 26 17 := ⟨12, by decide +kernel, by decide, by decide, rfl⟩
theorem k2729_29_17 : Dc jdk_2729_method_29_code 17 (.aload_n 3) 1 18 := ⟨by decide +kernel, rfl⟩
theorem k2729_29_18 : Dc jdk_2729_method_29_code 18 (.aload 5) 2 20 := ⟨by decide +kernel, rfl⟩
theorem k2729_29_20 : Dc jdk_2729_method_29_code 20 (.putfield 111) 3 23 := ⟨by decide +kernel, rfl⟩
theorem k2729_29_23 : Bc jdk_2729_method_29_code 23 (.goto) 32 26 := ⟨9, by decide +kernel, by decide, by decide, rfl⟩
theorem k2729_29_26 : Dc jdk_2729_method_29_code 26 (.aload_n 3) 1 27 := ⟨by decide +kernel, rfl⟩
theorem k2729_29_27 : Dc jdk_2729_method_29_code 27 (.aload 5) 2 29 := ⟨by decide +kernel, rfl⟩
theorem k2729_29_29 : Dc jdk_2729_method_29_code 29 (.putfield 114) 3 32 := ⟨by decide +kernel, rfl⟩
theorem k2729_29_32 : Dc jdk_2729_method_29_code 32 (.aload_n 0) 1 33 := ⟨by decide +kernel, rfl⟩
theorem k2729_29_33 : Dc jdk_2729_method_29_code 33 (.aload 5) 2 35 := ⟨by decide +kernel, rfl⟩
theorem k2729_29_35 : Dc jdk_2729_method_29_code 35 (.invokevirtual 170) 3 38 := ⟨by decide +kernel, rfl⟩
theorem k2729_29_38 : Dc jdk_2729_method_29_code 38 (.aload_n 0) 1 39 := ⟨by decide +kernel, rfl⟩
theorem k2729_29_39 : Dc jdk_2729_method_29_code 39 (.dup) 1 40 := ⟨by decide +kernel, rfl⟩
theorem k2729_29_40 : Dc jdk_2729_method_29_code 40 (.getfield 7) 3 43 := ⟨by decide +kernel, rfl⟩
theorem k2729_29_43 : Dc jdk_2729_method_29_code 43 (.iconst 1) 1 44 := ⟨by decide +kernel, rfl⟩
theorem k2729_29_44 : Dc jdk_2729_method_29_code 44 (.iadd) 1 45 := ⟨by decide +kernel, rfl⟩
theorem k2729_29_45 : Dc jdk_2729_method_29_code 45 (.putfield 7) 3 48 := ⟨by decide +kernel, rfl⟩
theorem k2729_29_48 : Dc jdk_2729_method_29_code 48 (.aload_n 0) 1 49 := ⟨by decide +kernel, rfl⟩
theorem k2729_29_49 : Dc jdk_2729_method_29_code 49 (.dup) 1 50 := ⟨by decide +kernel, rfl⟩
theorem k2729_29_50 : Dc jdk_2729_method_29_code 50 (.getfield 13) 3 53 := ⟨by decide +kernel, rfl⟩
theorem k2729_29_53 : Dc jdk_2729_method_29_code 53 (.iconst 1) 1 54 := ⟨by decide +kernel, rfl⟩
theorem k2729_29_54 : Dc jdk_2729_method_29_code 54 (.iadd) 1 55 := ⟨by decide +kernel, rfl⟩
theorem k2729_29_55 : Dc jdk_2729_method_29_code 55 (.putfield 13) 3 58 := ⟨by decide +kernel, rfl⟩
theorem k2729_29_58 : Dc jdk_2729_method_29_code 58 (.return_) 1 59 := ⟨by decide +kernel, rfl⟩
theorem k2729_30_0 : Dc jdk_2729_method_30_code 0 (.aload_n 0) 1 1 := ⟨by decide +kernel, rfl⟩
theorem k2729_30_1 : Dc jdk_2729_method_30_code 1 (.aload_n 1) 1 2 := ⟨by decide +kernel, rfl⟩
theorem k2729_30_2 : Dc jdk_2729_method_30_code 2 (.aload_n 1) 1 3 := ⟨by decide +kernel, rfl⟩
theorem k2729_30_3 : Dc jdk_2729_method_30_code 3 (.invokevirtual 123) 3 6 := ⟨by decide +kernel, rfl⟩
theorem k2729_30_6 : Dc jdk_2729_method_30_code 6 (.pop) 1 7 := ⟨by decide +kernel, rfl⟩
theorem k2729_30_7 : Dc jdk_2729_method_30_code 7 (.aload_n 0) 1 8 := ⟨by decide +kernel, rfl⟩
theorem k2729_30_8 : Dc jdk_2729_method_30_code 8 (.new 59) 3 11 := ⟨by decide +kernel, rfl⟩
theorem k2729_30_11 : Dc jdk_2729_method_30_code 11 (.dup) 1 12 := ⟨by decide +kernel, rfl⟩
theorem k2729_30_12 : Dc jdk_2729_method_30_code 12 (.aload_n 1) 1 13 := ⟨by decide +kernel, rfl⟩
theorem k2729_30_13 : Dc jdk_2729_method_30_code 13 (.aload_n 2) 1 14 := ⟨by decide +kernel, rfl⟩
theorem k2729_30_14 : Dc jdk_2729_method_30_code 14 (.aconst_null) 1 15 := ⟨by decide +kernel, rfl⟩
theorem k2729_30_15 : Dc jdk_2729_method_30_code 15 (.invokespecial 167) 3 18 := ⟨by decide +kernel, rfl⟩
theorem k2729_30_18 : Dc jdk_2729_method_30_code 18 (.putfield 101) 3 21 := ⟨by decide +kernel, rfl⟩
theorem k2729_30_21 : Dc jdk_2729_method_30_code 21 (.aload_n 0) 1 22 := ⟨by decide +kernel, rfl⟩
theorem k2729_30_22 : Dc jdk_2729_method_30_code 22 (.iconst 1) 1 23 := ⟨by decide +kernel, rfl⟩
theorem k2729_30_23 : Dc jdk_2729_method_30_code 23 (.putfield 7) 3 26 := ⟨by decide +kernel, rfl⟩
theorem k2729_30_26 : Dc jdk_2729_method_30_code 26 (.aload_n 0) 1 27 := ⟨by decide +kernel, rfl⟩
theorem k2729_30_27 : Dc jdk_2729_method_30_code 27 (.dup) 1 28 := ⟨by decide +kernel, rfl⟩
theorem k2729_30_28 : Dc jdk_2729_method_30_code 28 (.getfield 13) 3 31 := ⟨by decide +kernel, rfl⟩
theorem k2729_30_31 : Dc jdk_2729_method_30_code 31 (.iconst 1) 1 32 := ⟨by decide +kernel, rfl⟩
theorem k2729_30_32 : Dc jdk_2729_method_30_code 32 (.iadd) 1 33 := ⟨by decide +kernel, rfl⟩
theorem k2729_30_33 : Dc jdk_2729_method_30_code 33 (.putfield 13) 3 36 := ⟨by decide +kernel, rfl⟩
theorem k2729_30_36 : Dc jdk_2729_method_30_code 36 (.return_) 1 37 := ⟨by decide +kernel, rfl⟩
theorem k2729_33_0 : Dc jdk_2729_method_33_code 0 (.aload_n 1) 1 1 := ⟨by decide +kernel, rfl⟩
theorem k2729_33_1 : Dc jdk_2729_method_33_code 1 (.getfield 58) 3 4 := ⟨by decide +kernel, rfl⟩
theorem k2729_33_4 : Dc jdk_2729_method_33_code 4 (.astore 4) 2 6 := ⟨by decide +kernel, rfl⟩
theorem k2729_33_6 : Dc jdk_2729_method_33_code 6 (.aload_n 1) 1 7 := ⟨by decide +kernel, rfl⟩
theorem k2729_33_7 : Dc jdk_2729_method_33_code 7 (.getfield 58) 3 10 := ⟨by decide +kernel, rfl⟩
theorem k2729_33_10 : Bc jdk_2729_method_33_code 10 (.ifnonnull) 19 13 := ⟨9, by decide +kernel, by decide, by decide, rfl⟩
theorem k2729_33_19 : Dc jdk_2729_method_33_code 19 (.aload_n 0) 1 20 := ⟨by decide +kernel, rfl⟩
theorem k2729_33_20 : Dc jdk_2729_method_33_code 20 (.getfield 13) 3 23 := ⟨by decide +kernel, rfl⟩
theorem k2729_33_23 : Dc jdk_2729_method_33_code 23 (.istore 6) 2 25 := ⟨by decide +kernel, rfl⟩
theorem k2729_33_25 : Dc jdk_2729_method_33_code 25 (.aload_n 3) 1 26 := ⟨by decide +kernel, rfl⟩
theorem k2729_33_26 : Dc jdk_2729_method_33_code 26 (.aload 4) 2 28 := ⟨by decide +kernel, rfl⟩
theorem k2729_33_28 : Dc jdk_2729_method_33_code 28 (.aload_n 2) 1 29 := ⟨by decide +kernel, rfl⟩
theorem k2729_33_29 : Dc jdk_2729_method_33_code 29 (.invokeinterface 162 3) 5 34 := ⟨by decide +kernel, rfl⟩
theorem k2729_33_34 : Dc jdk_2729_method_33_code 34 (.astore 5) 2 36 := ⟨by decide +kernel, rfl⟩
theorem k2729_33_36 : Dc jdk_2729_method_33_code 36 (.iload 6) 2 38 := ⟨by decide +kernel, rfl⟩
theorem k2729_33_38 : Dc jdk_2729_method_33_code 38 (.aload_n 0) 1 39 := ⟨by decide +kernel, rfl⟩
theorem k2729_33_39 : Dc jdk_2729_method_33_code 39 (.getfield 13) 3 42 := ⟨by decide +kernel, rfl⟩
theorem k2729_33_42 : Bc jdk_2729_method_33_code 42 (.if_icmp .eq) 53 45 := ⟨11, by decide +kernel, by decide, by decide, rfl⟩
theorem k2729_33_53 : Dc jdk_2729_method_33_code 53 (.aload 5) 2 55 := ⟨by decide +kernel, rfl⟩
theorem k2729_33_55 : Bc jdk_2729_method_33_code 55 (.ifnonnull) 65 58 := ⟨10, by decide +kernel, by decide, by decide, rfl⟩
theorem k2729_33_65 : Dc jdk_2729_method_33_code 65 (.aload_n 1) 1 66 := ⟨by decide +kernel, rfl⟩
theorem k2729_33_66 : Dc jdk_2729_method_33_code 66 (.aload 5) 2 68 := ⟨by decide +kernel, rfl⟩
theorem k2729_33_68 : Dc jdk_2729_method_33_code 68 (.putfield 58) 3 71 := ⟨by decide +kernel, rfl⟩
theorem k2729_33_71 : Dc jdk_2729_method_33_code 71 (.aload 5) 2 73 := ⟨by decide +kernel, rfl⟩
theorem k2729_33_73 : Dc jdk_2729_method_33_code 73 (.areturn) 1 74 := ⟨by decide +kernel, rfl⟩
theorem k2729_53_0 : Dc jdk_2729_method_53_code 0 (.aload_n 0) 1 1 := ⟨by decide +kernel, rfl⟩
theorem k2729_53_1 : Dc jdk_2729_method_53_code 1 (.getfield 188) 3 4 := ⟨by decide +kernel, rfl⟩
theorem k2729_53_4 : Dc jdk_2729_method_53_code 4 (.astore_n 1) 1 5 := ⟨by decide +kernel, rfl⟩
theorem k2729_53_5 : Dc jdk_2729_method_53_code 5 (.aload_n 1) 1 6 := ⟨by decide +kernel, rfl⟩
theorem k2729_53_6 : Bc jdk_2729_method_53_code 6 (.ifnull) 13 9 := ⟨7, by decide +kernel, by decide, by decide, rfl⟩
theorem k2729_53_9 : Dc jdk_2729_method_53_code 9 (.aload_n 1) 1 10 := ⟨by decide +kernel, rfl⟩
theorem k2729_53_10 : Bc jdk_2729_method_53_code 10 (.goto) 26 13 := ⟨16, by decide +kernel, by decide, by decide, rfl⟩
theorem k2729_53_13 : Dc jdk_2729_method_53_code 13 (.aload_n 0) 1 14 := ⟨by decide +kernel, rfl⟩
theorem k2729_53_14 : Dc jdk_2729_method_53_code 14 (.new 242) 3 17 := ⟨by decide +kernel, rfl⟩
theorem k2729_53_17 : Dc jdk_2729_method_53_code 17 (.dup) 1 18 := ⟨by decide +kernel, rfl⟩
theorem k2729_53_18 : Dc jdk_2729_method_53_code 18 (.aload_n 0) 1 19 := ⟨by decide +kernel, rfl⟩
theorem k2729_53_19 : Dc jdk_2729_method_53_code 19 (.invokespecial 244) 3 22 := ⟨by decide +kernel, rfl⟩
theorem k2729_53_22 : Dc jdk_2729_method_53_code 22 (.dup_x1) 1 23 := ⟨by decide +kernel, rfl⟩
theorem k2729_53_23 : Dc jdk_2729_method_53_code 23 (.putfield 188) 3 26 := ⟨by decide +kernel, rfl⟩
theorem k2729_53_26 : Dc jdk_2729_method_53_code 26 (.areturn) 1 27 := ⟨by decide +kernel, rfl⟩
theorem k2729_67_0 : Dc jdk_2729_method_67_code 0 (.aload_n 0) 1 1 := ⟨by decide +kernel, rfl⟩
theorem k2729_67_1 : Dc jdk_2729_method_67_code 1 (.getfield 16) 3 4 := ⟨by decide +kernel, rfl⟩
theorem k2729_67_4 : Bc jdk_2729_method_67_code 4 (.ifnonnull) 20 7 := ⟨16, by decide +kernel, by decide, by decide, rfl⟩
theorem k2729_67_7 : Dc jdk_2729_method_67_code 7 (.aload_n 1) 1 8 := ⟨by decide +kernel, rfl⟩
theorem k2729_67_8 : Dc jdk_2729_method_67_code 8 (.checkcast 99) 3 11 := ⟨by decide +kernel, rfl⟩
theorem k2729_67_11 : Dc jdk_2729_method_67_code 11 (.aload_n 2) 1 12 := ⟨by decide +kernel, rfl⟩
theorem k2729_67_12 : Dc jdk_2729_method_67_code 12 (.invokeinterface 107 2) 5 17 := ⟨by decide +kernel, rfl⟩
theorem k2729_67_17 : Bc jdk_2729_method_67_code 17 (.goto) 31 20 := ⟨14, by decide +kernel, by decide, by decide, rfl⟩
theorem k2729_67_31 : Dc jdk_2729_method_67_code 31 (.ireturn) 1 32 := ⟨by decide +kernel, rfl⟩
theorem k2729_72_0 : Dc jdk_2729_method_72_code 0 (.aload_n 0) 1 1 := ⟨by decide +kernel, rfl⟩
theorem k2729_72_1 : Dc jdk_2729_method_72_code 1 (.getfield 101) 3 4 := ⟨by decide +kernel, rfl⟩
theorem k2729_72_4 : Dc jdk_2729_method_72_code 4 (.astore_n 1) 1 5 := ⟨by decide +kernel, rfl⟩
theorem k2729_72_5 : Dc jdk_2729_method_72_code 5 (.aload_n 1) 1 6 := ⟨by decide +kernel, rfl⟩
theorem k2729_72_6 : Bc jdk_2729_method_72_code 6 (.ifnull) 24 9 := ⟨18, by decide +kernel, by decide, by decide, rfl⟩
theorem k2729_72_9 : Dc jdk_2729_method_72_code 9 (.aload_n 1) 1 10 := ⟨by decide +kernel, rfl⟩
theorem k2729_72_10 : Dc jdk_2729_method_72_code 10 (.getfield 111) 3 13 := ⟨by decide +kernel, rfl⟩
theorem k2729_72_13 : Bc jdk_2729_method_72_code 13 (.ifnull) 24 16 := ⟨11, by decide +kernel, by decide, by decide, rfl⟩
theorem k2729_72_16 : Dc jdk_2729_method_72_code 16 (.aload_n 1) 1 17 := ⟨by decide +kernel, rfl⟩
theorem k2729_72_17 : Dc jdk_2729_method_72_code 17 (.getfield 111) 3 20 := ⟨by decide +kernel, rfl⟩
theorem k2729_72_20 : Dc jdk_2729_method_72_code 20 (.astore_n 1) 1 21 := ⟨by decide +kernel, rfl⟩
theorem k2729_72_21 : Bc jdk_2729_method_72_code 21 (.goto) 9 24 := ⟨(-12), by decide +kernel, by decide, by decide, rfl⟩
theorem k2729_72_24 : Dc jdk_2729_method_72_code 24 (.aload_n 1) 1 25 := ⟨by decide +kernel, rfl⟩
theorem k2729_72_25 : Dc jdk_2729_method_72_code 25 (.areturn) 1 26 := ⟨by decide +kernel, rfl⟩
theorem k2729_74_0 : Dc jdk_2729_method_74_code 0 (.aload_n 0) 1 1 := ⟨by decide +kernel, rfl⟩
theorem k2729_74_1 : Bc jdk_2729_method_74_code 1 (.ifnonnull) 6 4 := ⟨5, by decide +kernel, by decide, by decide, rfl⟩
theorem k2729_74_6 : Dc jdk_2729_method_74_code 6 (.aload_n 0) 1 7 := ⟨by decide +kernel, rfl⟩
theorem k2729_74_7 : Dc jdk_2729_method_74_code 7 (.getfield 114) 3 10 := ⟨by decide +kernel, rfl⟩
theorem k2729_74_10 : Bc jdk_2729_method_74_code 10 (.ifnull) 35 13 := ⟨25, by decide +kernel, by decide, by decide, rfl⟩
theorem k2729_74_13 : Dc jdk_2729_method_74_code 13 (.aload_n 0) 1 14 := ⟨by decide +kernel, rfl⟩
theorem k2729_74_14 : Dc jdk_2729_method_74_code 14 (.getfield 114) 3 17 := ⟨by decide +kernel, rfl⟩
theorem k2729_74_17 : Dc jdk_2729_method_74_code 17 (.astore_n 1) 1 18 := ⟨by decide +kernel, rfl⟩
theorem k2729_74_18 : Dc jdk_2729_method_74_code 18 (.aload_n 1) 1 19 := ⟨by decide +kernel, rfl⟩
theorem k2729_74_19 : Dc jdk_2729_method_74_code 19 (.getfield 111) 3 22 := ⟨by decide +kernel, rfl⟩
theorem k2729_74_22 : Bc jdk_2729_method_74_code 22 (.ifnull) 33 25 := ⟨11, by decide +kernel, by decide, by decide, rfl⟩
theorem k2729_74_33 : Dc jdk_2729_method_74_code 33 (.aload_n 1) 1 34 := ⟨by decide +kernel, rfl⟩
theorem k2729_74_34 : Dc jdk_2729_method_74_code 34 (.areturn) 1 35 := ⟨by decide +kernel, rfl⟩
theorem k2729_74_35 : Dc jdk_2729_method_74_code 35 (.aload_n 0) 1 36 := ⟨by decide +kernel, rfl⟩
theorem k2729_74_36 : Dc jdk_2729_method_74_code 36 (.getfield 124) 3 39 := ⟨by decide +kernel, rfl⟩
theorem k2729_74_39 : Dc jdk_2729_method_74_code 39 (.astore_n 1) 1 40 := ⟨by decide +kernel, rfl⟩
theorem k2729_74_40 : Dc jdk_2729_method_74_code 40 (.aload_n 0) 1 41 := ⟨by decide +kernel, rfl⟩
theorem k2729_74_41 : Dc jdk_2729_method_74_code 41 (.astore_n 2) 1 42 := ⟨by decide +kernel, rfl⟩
theorem k2729_74_42 : Dc jdk_2729_method_74_code 42 (.aload_n 1) 1 43 := ⟨by decide +kernel, rfl⟩
theorem k2729_74_43 : Bc jdk_2729_method_74_code 43 (.ifnull) 64 46 := ⟨21, by decide +kernel, by decide, by decide, rfl⟩
theorem k2729_74_46 : Dc jdk_2729_method_74_code 46 (.aload_n 2) 1 47 := ⟨by decide +kernel, rfl⟩
theorem k2729_74_47 : Dc jdk_2729_method_74_code 47 (.aload_n 1) 1 48 := ⟨by decide +kernel, rfl⟩
theorem k2729_74_48 : Dc jdk_2729_method_74_code 48 (.getfield 114) 3 51 := ⟨by decide +kernel, rfl⟩
theorem k2729_74_51 : Bc jdk_2729_method_74_code 51 (.if_acmp .ne) 64 54 := ⟨13, by decide +kernel, by decide, by decide, rfl⟩
theorem k2729_74_54 : Dc jdk_2729_method_74_code 54 (.aload_n 1) 1 55 := ⟨by decide +kernel, rfl⟩
theorem k2729_74_55 : Dc jdk_2729_method_74_code 55 (.astore_n 2) 1 56 := ⟨by decide +kernel, rfl⟩
theorem k2729_74_56 : Dc jdk_2729_method_74_code 56 (.aload_n 1) 1 57 := ⟨by decide +kernel, rfl⟩
theorem k2729_74_57 : Dc jdk_2729_method_74_code 57 (.getfield 124) 3 60 := ⟨by decide +kernel, rfl⟩
theorem k2729_74_60 : Dc jdk_2729_method_74_code 60 (.astore_n 1) 1 61 := ⟨by decide +kernel, rfl⟩
theorem k2729_74_61 : Bc jdk_2729_method_74_code 61 (.goto) 42 64 := ⟨(-19), by decide +kernel, by decide, by decide, rfl⟩
theorem k2729_74_64 : Dc jdk_2729_method_74_code 64 (.aload_n 1) 1 65 := ⟨by decide +kernel, rfl⟩
theorem k2729_74_65 : Dc jdk_2729_method_74_code 65 (.areturn) 1 66 := ⟨by decide +kernel, rfl⟩
theorem k2729_76_0 : Dc jdk_2729_method_76_code 0 (.aload_n 0) 1 1 := ⟨by decide +kernel, rfl⟩
theorem k2729_76_1 : Bc jdk_2729_method_76_code 1 (.ifnonnull) 8 4 := ⟨7, by decide +kernel, by decide, by decide, rfl⟩
theorem k2729_76_4 : Dc jdk_2729_method_76_code 4 (.iconst 1) 1 5 := ⟨by decide +kernel, rfl⟩
theorem k2729_76_5 : Bc jdk_2729_method_76_code 5 (.goto) 12 8 := ⟨7, by decide +kernel, by decide, by decide, rfl⟩
theorem k2729_76_12 : Dc jdk_2729_method_76_code 12 (.ireturn) 1 13 := ⟨by decide +kernel, rfl⟩
theorem k2729_77_0 : Dc jdk_2729_method_77_code 0 (.aload_n 0) 1 1 := ⟨by decide +kernel, rfl⟩
theorem k2729_77_1 : Bc jdk_2729_method_77_code 1 (.ifnonnull) 8 4 := ⟨7, by decide +kernel, by decide, by decide, rfl⟩
theorem k2729_77_8 : Dc jdk_2729_method_77_code 8 (.aload_n 0) 1 9 := ⟨by decide +kernel, rfl⟩
theorem k2729_77_9 : Dc jdk_2729_method_77_code 9 (.getfield 124) 3 12 := ⟨by decide +kernel, rfl⟩
theorem k2729_77_12 : Dc jdk_2729_method_77_code 12 (.areturn) 1 13 := ⟨by decide +kernel, rfl⟩
theorem k2729_78_0 : Dc jdk_2729_method_78_code 0 (.aload_n 0) 1 1 := ⟨by decide +kernel, rfl⟩
theorem k2729_78_1 : Bc jdk_2729_method_78_code 1 (.ifnull) 9 4 := ⟨8, by decide +kernel, by decide, by decide, rfl⟩
theorem k2729_78_4 : Dc jdk_2729_method_78_code 4 (.aload_n 0) 1 5 := ⟨by decide +kernel, rfl⟩
theorem k2729_78_5 : Dc jdk_2729_method_78_code 5 (.iload_n 1) 1 6 := ⟨by decide +kernel, rfl⟩
theorem k2729_78_6 : Dc jdk_2729_method_78_code 6 (.putfield 290) 3 9 := ⟨by decide +kernel, rfl⟩
theorem k2729_78_9 : Dc jdk_2729_method_78_code 9 (.return_) 1 10 := ⟨by decide +kernel, rfl⟩
theorem k2729_79_0 : Dc jdk_2729_method_79_code 0 (.aload_n 0) 1 1 := ⟨by decide +kernel, rfl⟩
theorem k2729_79_1 : Bc jdk_2729_method_79_code 1 (.ifnonnull) 8 4 := ⟨7, by decide +kernel, by decide, by decide, rfl⟩
theorem k2729_79_8 : Dc jdk_2729_method_79_code 8 (.aload_n 0) 1 9 := ⟨by decide +kernel, rfl⟩
theorem k2729_79_9 : Dc jdk_2729_method_79_code 9 (.getfield 111) 3 12 := ⟨by decide +kernel, rfl⟩
theorem k2729_79_12 : Dc jdk_2729_method_79_code 12 (.areturn) 1 13 := ⟨by decide +kernel, rfl⟩
theorem k2729_80_0 : Dc jdk_2729_method_80_code 0 (.aload_n 0) 1 1 := ⟨by decide +kernel, rfl⟩
theorem k2729_80_1 : Bc jdk_2729_method_80_code 1 (.ifnonnull) 8 4 := ⟨7, by decide +kernel, by decide, by decide, rfl⟩
theorem k2729_80_8 : Dc jdk_2729_method_80_code 8 (.aload_n 0) 1 9 := ⟨by decide +kernel, rfl⟩
theorem k2729_80_9 : Dc jdk_2729_method_80_code 9 (.getfield 114) 3 12 := ⟨by decide +kernel, rfl⟩
theorem k2729_80_12 : Dc jdk_2729_method_80_code 12 (.areturn) 1 13 := ⟨by decide +kernel, rfl⟩
theorem k2729_81_0 : Dc jdk_2729_method_81_code 0 (.aload_n 1) 1 1 := ⟨by decide +kernel, rfl⟩
theorem k2729_81_1 : Bc jdk_2729_method_81_code 1 (.ifnull) 95 4 := ⟨94, by decide +kernel, by decide, by decide, rfl⟩
theorem k2729_81_4 : Dc jdk_2729_method_81_code 4 (.aload_n 1) 1 5 := ⟨by decide +kernel, rfl⟩
theorem k2729_81_5 : Dc jdk_2729_method_81_code 5 (.getfield 114) 3 8 := ⟨by decide +kernel, rfl⟩
theorem k2729_81_8 : Dc jdk_2729_method_81_code 8 (.astore_n 2) 1 9 := ⟨by decide +kernel, rfl⟩
theorem k2729_81_9 : Dc jdk_2729_method_81_code 9 (.aload_n 1) 1 10 := ⟨by decide +kernel, rfl⟩
theorem k2729_81_10 : Dc jdk_2729_method_81_code 10 (.aload_n 2) 1 11 := ⟨by decide +kernel, rfl⟩
theorem k2729_81_11 : Dc jdk_2729_method_81_code 11 (.getfield 111) 3 14 := ⟨by decide +kernel, rfl⟩
theorem k2729_81_14 : Dc jdk_2729_method_81_code 14 (.putfield 114) 3 17 := ⟨by decide +kernel, rfl⟩
theorem k2729_81_17 : Dc jdk_2729_method_81_code 17 (.aload_n 2) 1 18 := ⟨by decide +kernel, rfl⟩
theorem k2729_81_18 : Dc jdk_2729_method_81_code 18 (.getfield 111) 3 21 := ⟨by decide +kernel, rfl⟩
theorem k2729_81_21 : Bc jdk_2729_method_81_code 21 (.ifnull) 32 24 := ⟨11, by decide +kernel, by decide, by decide, rfl⟩
theorem k2729_81_32 : Dc jdk_2729_method_81_code 32 (.aload_n 2) 1 33 := ⟨by decide +kernel, rfl⟩
theorem k2729_81_33 : Dc jdk_2729_method_81_code 33 (.aload_n 1) 1 34 := ⟨by decide +kernel, rfl⟩
theorem k2729_81_34 : Dc jdk_2729_method_81_code 34 (.getfield 124) 3 37 := ⟨by decide +kernel, rfl⟩
theorem k2729_81_37 : Dc jdk_2729_method_81_code 37 (.putfield 124) 3 40 := ⟨by decide +kernel, rfl⟩
theorem k2729_81_40 : Dc jdk_2729_method_81_code 40 (.aload_n 1) 1 41 := ⟨by decide +kernel, rfl⟩
theorem k2729_81_41 : Dc jdk_2729_method_81_code 41 (.getfield 124) 3 44 := ⟨by decide +kernel, rfl⟩
theorem k2729_81_44 : Bc jdk_2729_method_81_code 44 (.ifnonnull) 55 47 := ⟨11, by decide +kernel, by decide, by decide, rfl⟩
theorem k2729_81_47 : Dc jdk_2729_method_81_code 47 (.aload_n 0) 1 48 := ⟨by decide +kernel, rfl⟩
theorem k2729_81_48 : Dc jdk_2729_method_81_code 48 (.aload_n 2) 1 49 := ⟨by decide +kernel, rfl⟩
theorem k2729_81_49 : Dc jdk_2729_method_81_code 49 (.putfield 101) 3 52 := ⟨by decide +kernel, rfl⟩
theorem k2729_81_52 : Bc jdk_2729_method_81_code 52 (.goto) 85 55 := ⟨33, by decide +kernel, by decide, by decide, rfl⟩
theorem k2729_81_55 : Dc jdk_2729_method_81_code 55 (.aload_n 1) 1 56 := ⟨by decide +kernel, rfl⟩
theorem k2729_81_56 : Dc jdk_2729_method_81_code 56 (.getfield 124) 3 59 := ⟨by decide +kernel, rfl⟩
theorem k2729_81_59 : Dc jdk_2729_method_81_code 59 (.getfield 111) 3 62 := ⟨by decide +kernel, rfl⟩
theorem k2729_81_62 : Dc jdk_2729_method_81_code 62 (.aload_n 1) 1 63 := ⟨by decide +kernel, rfl⟩
theorem k2729_81_63 : Bc jdk_2729_method_81_code 63 (.if_acmp .ne) 77 66 := ⟨14, by decide +kernel, by decide, by decide, rfl⟩
theorem k2729_81_66 : Dc jdk_2729_method_81_code 66 (.aload_n 1) 1 67 := ⟨by decide +kernel, rfl⟩
theorem k2729_81_67 : Dc jdk_2729_method_81_code 67 (.getfield 124) 3 70 := ⟨by decide +kernel, rfl⟩
theorem k2729_81_70 : Dc jdk_2729_method_81_code 70 (.aload_n 2) 1 71 := ⟨by decide +kernel, rfl⟩
theorem k2729_81_71 : Dc jdk_2729_method_81_code 71 (.putfield 111) 3 74 := ⟨by decide +kernel, rfl⟩
theorem k2729_81_74 : Bc jdk_2729_method_81_code 74 (.goto) 85 77 := ⟨11, by decide +kernel, by decide, by decide, rfl⟩
theorem k2729_81_85 : Dc jdk_2729_method_81_code 85 (.aload_n 2) 1 86 := ⟨by decide +kernel, rfl⟩
theorem k2729_81_86 : Dc jdk_2729_method_81_code 86 (.aload_n 1) 1 87 := ⟨by decide +kernel, rfl⟩
theorem k2729_81_87 : Dc jdk_2729_method_81_code 87 (.putfield 111) 3 90 := ⟨by decide +kernel, rfl⟩
theorem k2729_81_90 : Dc jdk_2729_method_81_code 90 (.aload_n 1) 1 91 := ⟨by decide +kernel, rfl⟩
theorem k2729_81_91 : Dc jdk_2729_method_81_code 91 (.aload_n 2) 1 92 := ⟨by decide +kernel, rfl⟩
theorem k2729_81_92 : Dc jdk_2729_method_81_code 92 (.putfield 124) 3 95 := ⟨by decide +kernel, rfl⟩
theorem k2729_81_95 : Dc jdk_2729_method_81_code 95 (.return_) 1 96 := ⟨by decide +kernel, rfl⟩
theorem k2729_82_0 : Dc jdk_2729_method_82_code 0 (.aload_n 1) 1 1 := ⟨by decide +kernel, rfl⟩
theorem k2729_82_1 : Bc jdk_2729_method_82_code 1 (.ifnull) 95 4 := ⟨94, by decide +kernel, by decide, by decide, rfl⟩
theorem k2729_82_4 : Dc jdk_2729_method_82_code 4 (.aload_n 1) 1 5 := ⟨by decide +kernel, rfl⟩
theorem k2729_82_5 : Dc jdk_2729_method_82_code 5 (.getfield 111) 3 8 := ⟨by decide +kernel, rfl⟩
theorem k2729_82_8 : Dc jdk_2729_method_82_code 8 (.astore_n 2) 1 9 := ⟨by decide +kernel, rfl⟩
theorem k2729_82_9 : Dc jdk_2729_method_82_code 9 (.aload_n 1) 1 10 := ⟨by decide +kernel, rfl⟩
theorem k2729_82_10 : Dc jdk_2729_method_82_code 10 (.aload_n 2) 1 11 := ⟨by decide +kernel, rfl⟩
theorem k2729_82_11 : Dc jdk_2729_method_82_code 11 (.getfield 114) 3 14 := ⟨by decide +kernel, rfl⟩
theorem k2729_82_14 : Dc jdk_2729_method_82_code 14 (.putfield 111) 3 17 := ⟨by decide +kernel, rfl⟩
theorem k2729_82_17 : Dc jdk_2729_method_82_code 17 (.aload_n 2) 1 18 := ⟨by decide +kernel, rfl⟩
theorem k2729_82_18 : Dc jdk_2729_method_82_code 18 (.getfield 114) 3 21 := ⟨by decide +kernel, rfl⟩
theorem k2729_82_21 : Bc jdk_2729_method_82_code 21 (.ifnull) 32 24 := ⟨11, by decide +kernel, by decide, by decide, rfl⟩
theorem k2729_82_32 : Dc jdk_2729_method_82_code 32 (.aload_n 2) 1 33 := ⟨by decide +kernel, rfl⟩
theorem k2729_82_33 : Dc jdk_2729_method_82_code 33 (.aload_n 1) 1 34 := ⟨by decide +kernel, rfl⟩
theorem k2729_82_34 : Dc jdk_2729_method_82_code 34 (.getfield 124) 3 37 := ⟨by decide +kernel, rfl⟩
theorem k2729_82_37 : Dc jdk_2729_method_82_code 37 (.putfield 124) 3 40 := ⟨by decide +kernel, rfl⟩
theorem k2729_82_40 : Dc jdk_2729_method_82_code 40 (.aload_n 1) 1 41 := ⟨by decide +kernel, rfl⟩
theorem k2729_82_41 : Dc jdk_2729_method_82_code 41 (.getfield 124) 3 44 := ⟨by decide +kernel, rfl⟩
theorem k2729_82_44 : Bc jdk_2729_method_82_code 44 (.ifnonnull) 55 47 := ⟨11, by decide +kernel, by decide, by decide, rfl⟩
theorem k2729_82_47 : Dc jdk_2729_method_82_code 47 (.aload_n 0) 1 48 := ⟨by decide +kernel, rfl⟩
theorem k2729_82_48 : Dc jdk_2729_method_82_code 48 (.aload_n 2) 1 49 := ⟨by decide +kernel, rfl⟩
theorem k2729_82_49 : Dc jdk_2729_method_82_code 49 (.putfield 101) 3 52 := ⟨by decide +kernel, rfl⟩
theorem k2729_82_52 : Bc jdk_2729_method_82_code 52 (.goto) 85 55 := ⟨33, by decide +kernel, by decide, by decide, rfl⟩
theorem k2729_82_55 : Dc jdk_2729_method_82_code 55 (.aload_n 1) 1 56 := ⟨by decide +kernel, rfl⟩
theorem k2729_82_56 : Dc jdk_2729_method_82_code 56 (.getfield 124) 3 59 := ⟨by decide +kernel, rfl⟩
theorem k2729_82_59 : Dc jdk_2729_method_82_code 59 (.getfield 114) 3 62 := ⟨by decide +kernel, rfl⟩
theorem k2729_82_62 : Dc jdk_2729_method_82_code 62 (.aload_n 1) 1 63 := ⟨by decide +kernel, rfl⟩
theorem k2729_82_63 : Bc jdk_2729_method_82_code 63 (.if_acmp .ne) 77 66 := ⟨14, by decide +kernel, by decide, by decide, rfl⟩
theorem k2729_82_66 : Dc jdk_2729_method_82_code 66 (.aload_n 1) 1 67 := ⟨by decide +kernel, rfl⟩
theorem k2729_82_67 : Dc jdk_2729_method_82_code 67 (.getfield 124) 3 70 := ⟨by decide +kernel, rfl⟩
theorem k2729_82_70 : Dc jdk_2729_method_82_code 70 (.aload_n 2) 1 71 := ⟨by decide +kernel, rfl⟩
theorem k2729_82_71 : Dc jdk_2729_method_82_code 71 (.putfield 114) 3 74 := ⟨by decide +kernel, rfl⟩
theorem k2729_82_74 : Bc jdk_2729_method_82_code 74 (.goto) 85 77 := ⟨11, by decide +kernel, by decide, by decide, rfl⟩
theorem k2729_82_85 : Dc jdk_2729_method_82_code 85 (.aload_n 2) 1 86 := ⟨by decide +kernel, rfl⟩
theorem k2729_82_86 : Dc jdk_2729_method_82_code 86 (.aload_n 1) 1 87 := ⟨by decide +kernel, rfl⟩
theorem k2729_82_87 : Dc jdk_2729_method_82_code 87 (.putfield 114) 3 90 := ⟨by decide +kernel, rfl⟩
theorem k2729_82_90 : Dc jdk_2729_method_82_code 90 (.aload_n 1) 1 91 := ⟨by decide +kernel, rfl⟩
theorem k2729_82_91 : Dc jdk_2729_method_82_code 91 (.aload_n 2) 1 92 := ⟨by decide +kernel, rfl⟩
theorem k2729_82_92 : Dc jdk_2729_method_82_code 92 (.putfield 124) 3 95 := ⟨by decide +kernel, rfl⟩
theorem k2729_82_95 : Dc jdk_2729_method_82_code 95 (.return_) 1 96 := ⟨by decide +kernel, rfl⟩
theorem k2729_83_0 : Dc jdk_2729_method_83_code 0 (.aload_n 1) 1 1 := ⟨by decide +kernel, rfl⟩
theorem k2729_83_1 : Dc jdk_2729_method_83_code 1 (.iconst 0) 1 2 := ⟨by decide +kernel, rfl⟩
theorem k2729_83_2 : Dc jdk_2729_method_83_code 2 (.putfield 290) 3 5 := ⟨by decide +kernel, rfl⟩
theorem k2729_83_5 : Dc jdk_2729_method_83_code 5 (.aload_n 1) 1 6 := ⟨by decide +kernel, rfl⟩
theorem k2729_83_6 : Bc jdk_2729_method_83_code 6 (.ifnull) 258 9 := ⟨252, by decide +kernel, by decide, by decide, rfl⟩
theorem k2729_83_9 : Dc jdk_2729_method_83_code 9 (.aload_n 1) 1 10 := ⟨by decide +kernel, rfl⟩
theorem k2729_83_10 : Dc jdk_2729_method_83_code 10 (.aload_n 0) 1 11 := ⟨by decide +kernel, rfl⟩
theorem k2729_83_11 : Dc jdk_2729_method_83_code 11 (.getfield 101) 3 14 := ⟨by decide +kernel, rfl⟩
theorem k2729_83_14 : Bc jdk_2729_method_83_code 14 (.if_acmp .eq) 258 17 := ⟨244, by decide +kernel, by decide, by decide, rfl⟩
theorem k2729_83_17 : Dc jdk_2729_method_83_code 17 (.aload_n 1) 1 18 := ⟨by decide +kernel, rfl⟩
theorem k2729_83_18 : Dc jdk_2729_method_83_code 18 (.getfield 124) 3 21 := ⟨by decide +kernel, rfl⟩
theorem k2729_83_21 : Dc jdk_2729_method_83_code 21 (.getfield 290) 3 24 := ⟨by decide +kernel, rfl⟩
theorem k2729_83_24 : Bc jdk_2729_method_83_code 24 (.ifCond .ne) 258 27 := ⟨234, by decide +kernel, by decide, by decide, rfl⟩
theorem k2729_83_27 : Dc jdk_2729_method_83_code 27 (.aload_n 1) 1 28 := ⟨by decide +kernel, rfl⟩
theorem k2729_83_28 : Dc jdk_2729_method_83_code 28 (.invokestatic 294) 3 31 := ⟨by decide +kernel, rfl⟩
theorem k2729_83_31 : Dc jdk_2729_method_83_code 31 (.aload_n 1) 1 32 := ⟨by decide +kernel, rfl⟩
theorem k2729_83_32 : Dc jdk_2729_method_83_code 32 (.invokestatic 294) 3 35 := ⟨by decide +kernel, rfl⟩
theorem k2729_83_35 : Dc jdk_2729_method_83_code 35 (.invokestatic 294) 3 38 := ⟨by decide +kernel, rfl⟩
theorem k2729_83_38 : Dc jdk_2729_method_83_code 38 (.invokestatic 297) 3 41 := ⟨by decide +kernel, rfl⟩
theorem k2729_83_41 : Bc jdk_2729_method_83_code 41 (.if_acmp .ne) 151 44 := ⟨110, by decide +kernel, by decide, by decide, rfl⟩
theorem k2729_83_44 : Dc jdk_2729_method_83_code 44 (.aload_n 1) 1 45 := ⟨by decide +kernel, rfl⟩
theorem k2729_83_45 : Dc jdk_2729_method_83_code 45 (.invokestatic 294) 3 48 := ⟨by decide +kernel, rfl⟩
theorem k2729_83_48 : Dc jdk_2729_method_83_code 48 (.invokestatic 294) 3 51 := ⟨by decide +kernel, rfl⟩
theorem k2729_83_51 : Dc jdk_2729_method_83_code 51 (.invokestatic 300) 3 54 := ⟨by decide +kernel, rfl⟩
theorem k2729_83_54 : Dc jdk_2729_method_83_code 54 (.astore_n 2) 1 55 := ⟨by decide +kernel, rfl⟩
theorem k2729_83_55 : Dc jdk_2729_method_83_code 55 (.aload_n 2) 1 56 := ⟨by decide +kernel, rfl⟩
theorem k2729_83_56 : Dc jdk_2729_method_83_code 56 (.invokestatic 303) 3 59 := ⟨by decide +kernel, rfl⟩
theorem k2729_83_59 : Bc jdk_2729_method_83_code 59 (.ifCond .ne) 97 62 := ⟨38, by decide +kernel, by decide, by decide, rfl⟩
theorem k2729_83_97 : Dc jdk_2729_method_83_code 97 (.aload_n 1) 1 98 := ⟨by decide +kernel, rfl⟩
theorem k2729_83_98 : Dc jdk_2729_method_83_code 98 (.aload_n 1) 1 99 := ⟨by decide +kernel, rfl⟩
theorem k2729_83_99 : Dc jdk_2729_method_83_code 99 (.invokestatic 294) 3 102 := ⟨by decide +kernel, rfl⟩
theorem k2729_83_102 : Dc jdk_2729_method_83_code 102 (.invokestatic 300) 3 105 := ⟨by decide +kernel, rfl⟩
theorem k2729_83_105 : Bc jdk_2729_method_83_code 105 (.if_acmp .ne) 118 108 := ⟨13, by decide +kernel, by decide, by decide, rfl⟩
theorem k2729_83_108 : Dc jdk_2729_method_83_code 108 (.aload_n 1) 1 109 := ⟨by decide +kernel, rfl⟩
theorem k2729_83_109 : Dc jdk_2729_method_83_code 109 (.invokestatic 294) 3 112 := ⟨by decide +kernel, rfl⟩
theorem k2729_83_112 : Dc jdk_2729_method_83_code 112 (.astore_n 1) 1 113 := ⟨by decide +kernel, rfl⟩
theorem k2729_83_113 : Dc jdk_2729_method_83_code 113 (.aload_n 0) 1 114 := ⟨by decide +kernel, rfl⟩
theorem k2729_83_114 : Dc jdk_2729_method_83_code 114 (.aload_n 1) 1 115 := ⟨by decide +kernel, rfl⟩
theorem k2729_83_115 : Dc jdk_2729_method_83_code 115 (.invokevirtual 311) 3 118 := ⟨by decide +kernel, rfl⟩
theorem k2729_83_118 : Dc jdk_2729_method_83_code 118 (.aload_n 1) 1 119 := ⟨by decide +kernel, rfl⟩
theorem k2729_83_119 : Dc jdk_2729_method_83_code 119 (.invokestatic 294) 3 122 := ⟨by decide +kernel, rfl⟩
theorem k2729_83_122 : Dc jdk_2729_method_83_code 122 (.iconst 1) 1 123 := ⟨by decide +kernel, rfl⟩
theorem k2729_83_123 : Dc jdk_2729_method_83_code 123 (.invokestatic 307) 3 126 := ⟨by decide +kernel, rfl⟩
theorem k2729_83_126 : Dc jdk_2729_method_83_code 126 (.aload_n 1) 1 127 := ⟨by decide +kernel, rfl⟩
theorem k2729_83_127 : Dc jdk_2729_method_83_code 127 (.invokestatic 294) 3 130 := ⟨by decide +kernel, rfl⟩
theorem k2729_83_130 : Dc jdk_2729_method_83_code 130 (.invokestatic 294) 3 133 := ⟨by decide +kernel, rfl⟩
theorem k2729_83_133 : Dc jdk_2729_method_83_code 133 (.iconst 0) 1 134 := ⟨by decide +kernel, rfl⟩
theorem k2729_83_134 : Dc jdk_2729_method_83_code 134 (.invokestatic 307) 3 137 := ⟨by decide +kernel, rfl⟩
theorem k2729_83_137 : Dc jdk_2729_method_83_code 137 (.aload_n 0) 1 138 := ⟨by decide +kernel, rfl⟩
theorem k2729_83_138 : Dc jdk_2729_method_83_code 138 (.aload_n 1) 1 139 := ⟨by decide +kernel, rfl⟩
theorem k2729_83_139 : Dc jdk_2729_method_83_code 139 (.invokestatic 294) 3 142 := ⟨by decide +kernel, rfl⟩
theorem k2729_83_142 : Dc jdk_2729_method_83_code 142 (.invokestatic 294) 3 145 := ⟨by decide +kernel, rfl⟩
theorem k2729_83_145 : Dc jdk_2729_method_83_code 145 (.invokevirtual 314) 3 148 := ⟨by decide +kernel, rfl⟩
theorem k2729_83_148 : Bc jdk_2729_method_83_code 148 (.goto) 5 151 := ⟨(-143), by decide +kernel, by decide, by decide, rfl⟩
theorem k2729_83_151 : Dc jdk_2729_method_83_code 151 (.aload_n 1) 1 152 := ⟨by decide +kernel, rfl⟩
theorem k2729_83_152 : Dc jdk_2729_method_83_code 152 (.invokestatic 294) 3 155 := ⟨by decide +kernel, rfl⟩
theorem k2729_83_155 : Dc jdk_2729_method_83_code 155 (.invokestatic 294) 3 158 := ⟨by decide +kernel, rfl⟩
theorem k2729_83_158 : Dc jdk_2729_method_83_code 158 (.invokestatic 297) 3 161 := ⟨by decide +kernel, rfl⟩
theorem k2729_83_161 : Dc jdk_2729_method_83_code 161 (.astore_n 2) 1 162 := ⟨by decide +kernel, rfl⟩
theorem k2729_83_162 : Dc jdk_2729_method_83_code 162 (.aload_n 2) 1 163 := ⟨by decide +kernel, rfl⟩
theorem k2729_83_163 : Dc jdk_2729_method_83_code 163 (.invokestatic 303) 3 166 := ⟨by decide +kernel, rfl⟩
theorem k2729_83_166 : Bc jdk_2729_method_83_code 166 (.ifCond .ne) 204 169 := ⟨38, by decide +kernel, by decide, by decide, rfl⟩
theorem k2729_83_204 : Dc jdk_2729_method_83_code 204 (.aload_n 1) 1 205 := ⟨by decide +kernel, rfl⟩
theorem k2729_83_205 : Dc jdk_2729_method_83_code 205 (.aload_n 1) 1 206 := ⟨by decide +kernel, rfl⟩
theorem k2729_83_206 : Dc jdk_2729_method_83_code 206 (.invokestatic 294) 3 209 := ⟨by decide +kernel, rfl⟩
theorem k2729_83_209 : Dc jdk_2729_method_83_code 209 (.invokestatic 297) 3 212 := ⟨by decide +kernel, rfl⟩
theorem k2729_83_212 : Bc jdk_2729_method_83_code 212 (.if_acmp .ne) 225 215 := ⟨13, by decide +kernel, by decide, by decide, rfl⟩
theorem k2729_83_215 : Dc jdk_2729_method_83_code 215 (.aload_n 1) 1 216 := ⟨by decide +kernel, rfl⟩
theorem k2729_83_216 : Dc jdk_2729_method_83_code 216 (.invokestatic 294) 3 219 := ⟨by decide +kernel, rfl⟩
theorem k2729_83_219 : Dc jdk_2729_method_83_code 219 (.astore_n 1) 1 220 := ⟨by decide +kernel, rfl⟩
theorem k2729_83_220 : Dc jdk_2729_method_83_code 220 (.aload_n 0) 1 221 := ⟨by decide +kernel, rfl⟩
theorem k2729_83_221 : Dc jdk_2729_method_83_code 221 (.aload_n 1) 1 222 := ⟨by decide +kernel, rfl⟩
theorem k2729_83_222 : Dc jdk_2729_method_83_code 222 (.invokevirtual 314) 3 225 := ⟨by decide +kernel, rfl⟩
theorem k2729_83_225 : Dc jdk_2729_method_83_code 225 (.aload_n 1) 1 226 := ⟨by decide +kernel, rfl⟩
theorem k2729_83_226 : Dc jdk_2729_method_83_code 226 (.invokestatic 294) 3 229 := ⟨by decide +kernel, rfl⟩
theorem k2729_83_229 : Dc jdk_2729_method_83_code 229 (.iconst 1) 1 230 := ⟨by decide +kernel, rfl⟩
theorem k2729_83_230 : Dc jdk_2729_method_83_code 230 (.invokestatic 307) 3 233 := ⟨by decide +kernel, rfl⟩
theorem k2729_83_233 : Dc jdk_2729_method_83_code 233 (.aload_n 1) 1 234 := ⟨by decide +kernel, rfl⟩
theorem k2729_83_234 : Dc jdk_2729_method_83_code 234 (.invokestatic 294) 3 237 := ⟨by decide +kernel, rfl⟩
theorem k2729_83_237 : Dc jdk_2729_method_83_code 237 (.invokestatic 294) 3 240 := ⟨by decide +kernel, rfl⟩
theorem k2729_83_240 : Dc jdk_2729_method_83_code 240 (.iconst 0) 1 241 := ⟨by decide +kernel, rfl⟩
theorem k2729_83_241 : Dc jdk_2729_method_83_code 241 (.invokestatic 307) 3 244 := ⟨by decide +kernel, rfl⟩
theorem k2729_83_244 : Dc jdk_2729_method_83_code 244 (.aload_n 0) 1 245 := ⟨by decide +kernel, rfl⟩
theorem k2729_83_245 : Dc jdk_2729_method_83_code 245 (.aload_n 1) 1 246 := ⟨by decide +kernel, rfl⟩
theorem k2729_83_246 : Dc jdk_2729_method_83_code 246 (.invokestatic 294) 3 249 := ⟨by decide +kernel, rfl⟩
theorem k2729_83_249 : Dc jdk_2729_method_83_code 249 (.invokestatic 294) 3 252 := ⟨by decide +kernel, rfl⟩
theorem k2729_83_252 : Dc jdk_2729_method_83_code 252 (.invokevirtual 311) 3 255 := ⟨by decide +kernel, rfl⟩
theorem k2729_83_255 : Bc jdk_2729_method_83_code 255 (.goto) 5 258 := ⟨(-250), by decide +kernel, by decide, by decide, rfl⟩
theorem k2729_83_258 : Dc jdk_2729_method_83_code 258 (.aload_n 0) 1 259 := ⟨by decide +kernel, rfl⟩
theorem k2729_83_259 : Dc jdk_2729_method_83_code 259 (.getfield 101) 3 262 := ⟨by decide +kernel, rfl⟩
theorem k2729_83_262 : Dc jdk_2729_method_83_code 262 (.iconst 1) 1 263 := ⟨by decide +kernel, rfl⟩
theorem k2729_83_263 : Dc jdk_2729_method_83_code 263 (.putfield 290) 3 266 := ⟨by decide +kernel, rfl⟩
theorem k2729_83_266 : Dc jdk_2729_method_83_code 266 (.return_) 1 267 := ⟨by decide +kernel, rfl⟩
theorem k2736_1_0 : Dc jdk_2736_method_1_code 0 (.aload_n 0) 1 1 := ⟨by decide +kernel, rfl⟩
theorem k2736_1_1 : Dc jdk_2736_method_1_code 1 (.invokespecial 3) 3 4 := ⟨by decide +kernel, rfl⟩
theorem k2736_1_4 : Dc jdk_2736_method_1_code 4 (.aload_n 0) 1 5 := ⟨by decide +kernel, rfl⟩
theorem k2736_1_5 : Dc jdk_2736_method_1_code 5 (.iconst 1) 1 6 := ⟨by decide +kernel, rfl⟩
theorem k2736_1_6 : Dc jdk_2736_method_1_code 6 (.putfield 9) 3 9 := ⟨by decide +kernel, rfl⟩
theorem k2736_1_9 : Dc jdk_2736_method_1_code 9 (.aload_n 0) 1 10 := ⟨by decide +kernel, rfl⟩
theorem k2736_1_10 : Dc jdk_2736_method_1_code 10 (.aload_n 1) 1 11 := ⟨by decide +kernel, rfl⟩
theorem k2736_1_11 : Dc jdk_2736_method_1_code 11 (.putfield 15) 3 14 := ⟨by decide +kernel, rfl⟩
theorem k2736_1_14 : Dc jdk_2736_method_1_code 14 (.aload_n 0) 1 15 := ⟨by decide +kernel, rfl⟩
theorem k2736_1_15 : Dc jdk_2736_method_1_code 15 (.aload_n 2) 1 16 := ⟨by decide +kernel, rfl⟩
theorem k2736_1_16 : Dc jdk_2736_method_1_code 16 (.putfield 19) 3 19 := ⟨by decide +kernel, rfl⟩
theorem k2736_1_19 : Dc jdk_2736_method_1_code 19 (.aload_n 0) 1 20 := ⟨by decide +kernel, rfl⟩
theorem k2736_1_20 : Dc jdk_2736_method_1_code 20 (.aload_n 3) 1 21 := ⟨by decide +kernel, rfl⟩
theorem k2736_1_21 : Dc jdk_2736_method_1_code 21 (.putfield 22) 3 24 := ⟨by decide +kernel, rfl⟩
theorem k2736_1_24 : Dc jdk_2736_method_1_code 24 (.return_) 1 25 := ⟨by decide +kernel, rfl⟩
theorem k2736_2_0 : Dc jdk_2736_method_2_code 0 (.aload_n 0) 1 1 := ⟨by decide +kernel, rfl⟩
theorem k2736_2_1 : Dc jdk_2736_method_2_code 1 (.getfield 15) 3 4 := ⟨by decide +kernel, rfl⟩
theorem k2736_2_4 : Dc jdk_2736_method_2_code 4 (.areturn) 1 5 := ⟨by decide +kernel, rfl⟩
theorem k2736_3_0 : Dc jdk_2736_method_3_code 0 (.aload_n 0) 1 1 := ⟨by decide +kernel, rfl⟩
theorem k2736_3_1 : Dc jdk_2736_method_3_code 1 (.getfield 19) 3 4 := ⟨by decide +kernel, rfl⟩
theorem k2736_3_4 : Dc jdk_2736_method_3_code 4 (.areturn) 1 5 := ⟨by decide +kernel, rfl⟩
theorem k2737_1_0 : Dc jdk_2737_method_1_code 0 (.aload_n 0) 1 1 := ⟨by decide +kernel, rfl⟩
theorem k2737_1_1 : Dc jdk_2737_method_1_code 1 (.aload_n 1) 1 2 := ⟨by decide +kernel, rfl⟩
theorem k2737_1_2 : Dc jdk_2737_method_1_code 2 (.aload_n 2) 1 3 := ⟨by decide +kernel, rfl⟩
theorem k2737_1_3 : Dc jdk_2737_method_1_code 3 (.invokespecial 1) 3 6 := ⟨by decide +kernel, rfl⟩
theorem k2737_1_6 : Dc jdk_2737_method_1_code 6 (.return_) 1 7 := ⟨by decide +kernel, rfl⟩
theorem k2737_2_0 : Dc jdk_2737_method_2_code 0 (.aload_n 0) 1 1 := ⟨by decide +kernel, rfl⟩
theorem k2737_2_1 : Dc jdk_2737_method_2_code 1 (.invokevirtual 7) 3 4 := ⟨by decide +kernel, rfl⟩
theorem k2737_2_4 : Dc jdk_2737_method_2_code 4 (.areturn) 1 5 := ⟨by decide +kernel, rfl⟩
theorem k2737_3_0 : Dc jdk_2737_method_3_code 0 (.aload_n 0) 1 1 := ⟨by decide +kernel, rfl⟩
theorem k2737_3_1 : Dc jdk_2737_method_3_code 1 (.invokevirtual 13) 3 4 := ⟨by decide +kernel, rfl⟩
theorem k2737_3_4 : Dc jdk_2737_method_3_code 4 (.areturn) 1 5 := ⟨by decide +kernel, rfl⟩
theorem k2738_1_0 : Dc jdk_2738_method_1_code 0 (.aload_n 0) 1 1 := ⟨by decide +kernel, rfl⟩
theorem k2738_1_1 : Dc jdk_2738_method_1_code 1 (.aload_n 1) 1 2 := ⟨by decide +kernel, rfl⟩
theorem k2738_1_2 : Dc jdk_2738_method_1_code 2 (.putfield 1) 3 5 := ⟨by decide +kernel, rfl⟩
theorem k2738_1_5 : Dc jdk_2738_method_1_code 5 (.aload_n 0) 1 6 := ⟨by decide +kernel, rfl⟩
theorem k2738_1_6 : Dc jdk_2738_method_1_code 6 (.invokespecial 7) 3 9 := ⟨by decide +kernel, rfl⟩
theorem k2738_1_9 : Dc jdk_2738_method_1_code 9 (.return_) 1 10 := ⟨by decide +kernel, rfl⟩
theorem k2738_2_0 : Dc jdk_2738_method_2_code 0 (.new 13) 3 3 := ⟨by decide +kernel, rfl⟩
theorem k2738_2_3 : Dc jdk_2738_method_2_code 3 (.dup) 1 4 := ⟨by decide +kernel, rfl⟩
theorem k2738_2_4 : Dc jdk_2738_method_2_code 4 (.aload_n 0) 1 5 := ⟨by decide +kernel, rfl⟩
theorem k2738_2_5 : Dc jdk_2738_method_2_code 5 (.getfield 1) 3 8 := ⟨by decide +kernel, rfl⟩
theorem k2738_2_8 : Dc jdk_2738_method_2_code 8 (.aload_n 0) 1 9 := ⟨by decide +kernel, rfl⟩
theorem k2738_2_9 : Dc jdk_2738_method_2_code 9 (.getfield 1) 3 12 := ⟨by decide +kernel, rfl⟩
theorem k2738_2_12 : Dc jdk_2738_method_2_code 12 (.invokevirtual 15) 3 15 := ⟨by decide +kernel, rfl⟩
theorem k2738_2_15 : Dc jdk_2738_method_2_code 15 (.invokespecial 21) 3 18 := ⟨by decide +kernel, rfl⟩
theorem k2738_2_18 : Dc jdk_2738_method_2_code 18 (.areturn) 1 19 := ⟨by decide +kernel, rfl⟩
theorem k2750_1_0 : Dc jdk_2750_method_1_code 0 (.aload_n 0) 1 1 := ⟨by decide +kernel, rfl⟩
theorem k2750_1_1 : Dc jdk_2750_method_1_code 1 (.aload_n 1) 1 2 := ⟨by decide +kernel, rfl⟩
theorem k2750_1_2 : Dc jdk_2750_method_1_code 2 (.putfield 1) 3 5 := ⟨by decide +kernel, rfl⟩
theorem k2750_1_5 : Dc jdk_2750_method_1_code 5 (.aload_n 0) 1 6 := ⟨by decide +kernel, rfl⟩
theorem k2750_1_6 : Dc jdk_2750_method_1_code 6 (.invokespecial 7) 3 9 := ⟨by decide +kernel, rfl⟩
theorem k2750_1_9 : Dc jdk_2750_method_1_code 9 (.aload_n 0) 1 10 := ⟨by decide +kernel, rfl⟩
theorem k2750_1_10 : Dc jdk_2750_method_1_code 10 (.aload_n 1) 1 11 := ⟨by decide +kernel, rfl⟩
theorem k2750_1_11 : Dc jdk_2750_method_1_code 11 (.getfield 13) 3 14 := ⟨by decide +kernel, rfl⟩
theorem k2750_1_14 : Dc jdk_2750_method_1_code 14 (.putfield 19) 3 17 := ⟨by decide +kernel, rfl⟩
theorem k2750_1_17 : Dc jdk_2750_method_1_code 17 (.aload_n 0) 1 18 := ⟨by decide +kernel, rfl⟩
theorem k2750_1_18 : Dc jdk_2750_method_1_code 18 (.aconst_null) 1 19 := ⟨by decide +kernel, rfl⟩
theorem k2750_1_19 : Dc jdk_2750_method_1_code 19 (.putfield 22) 3 22 := ⟨by decide +kernel, rfl⟩
theorem k2750_1_22 : Dc jdk_2750_method_1_code 22 (.aload_n 0) 1 23 := ⟨by decide +kernel, rfl⟩
theorem k2750_1_23 : Dc jdk_2750_method_1_code 23 (.aload_n 2) 1 24 := ⟨by decide +kernel, rfl⟩
theorem k2750_1_24 : Dc jdk_2750_method_1_code 24 (.putfield 26) 3 27 := ⟨by decide +kernel, rfl⟩
theorem k2750_1_27 : Dc jdk_2750_method_1_code 27 (.return_) 1 28 := ⟨by decide +kernel, rfl⟩
theorem k2750_2_0 : Dc jdk_2750_method_2_code 0 (.aload_n 0) 1 1 := ⟨by decide +kernel, rfl⟩
theorem k2750_2_1 : Dc jdk_2750_method_2_code 1 (.getfield 26) 3 4 := ⟨by decide +kernel, rfl⟩
theorem k2750_2_4 : Bc jdk_2750_method_2_code 4 (.ifnull) 11 7 := ⟨7, by decide +kernel, by decide, by decide, rfl⟩
theorem k2750_2_7 : Dc jdk_2750_method_2_code 7 (.iconst 1) 1 8 := ⟨by decide +kernel, rfl⟩
theorem k2750_2_8 : Bc jdk_2750_method_2_code 8 (.goto) 12 11 := ⟨4, by decide +kernel, by decide, by decide, rfl⟩
theorem k2750_2_11 : Dc jdk_2750_method_2_code 11 (.iconst 0) 1 12 := ⟨by decide +kernel, rfl⟩
theorem k2750_2_12 : Dc jdk_2750_method_2_code 12 (.ireturn) 1 13 := ⟨by decide +kernel, rfl⟩
theorem k2750_3_0 : Dc jdk_2750_method_3_code 0 (.aload_n 0) 1 1 := ⟨by decide +kernel, rfl⟩
theorem k2750_3_1 : Dc jdk_2750_method_3_code 1 (.getfield 26) 3 4 := ⟨by decide +kernel, rfl⟩
theorem k2750_3_4 : Dc jdk_2750_method_3_code 4 (.astore_n 1) 1 5 := ⟨by decide +kernel, rfl⟩
theorem k2750_3_5 : Dc jdk_2750_method_3_code 5 (.aload_n 1) 1 6 := ⟨by decide +kernel, rfl⟩
theorem k2750_3_6 : Bc jdk_2750_method_3_code 6 (.ifnonnull) 17 9 := ⟨11, by decide +kernel, by decide, by decide, rfl⟩
theorem k2750_3_17 : Dc jdk_2750_method_3_code 17 (.aload_n 0) 1 18 := ⟨by decide +kernel, rfl⟩
theorem k2750_3_18 : Dc jdk_2750_method_3_code 18 (.getfield 1) 3 21 := ⟨by decide +kernel, rfl⟩
theorem k2750_3_21 : Dc jdk_2750_method_3_code 21 (.getfield 13) 3 24 := ⟨by decide +kernel, rfl⟩
theorem k2750_3_24 : Dc jdk_2750_method_3_code 24 (.aload_n 0) 1 25 := ⟨by decide +kernel, rfl⟩
theorem k2750_3_25 : Dc jdk_2750_method_3_code 25 (.getfield 19) 3 28 := ⟨by decide +kernel, rfl⟩
theorem k2750_3_28 : Bc jdk_2750_method_3_code 28 (.if_icmp .eq) 39 31 := ⟨11, by decide +kernel, by decide, by decide, rfl⟩
theorem k2750_3_39 : Dc jdk_2750_method_3_code 39 (.aload_n 0) 1 40 := ⟨by decide +kernel, rfl⟩
theorem k2750_3_40 : Dc jdk_2750_method_3_code 40 (.aload_n 1) 1 41 := ⟨by decide +kernel, rfl⟩
theorem k2750_3_41 : Dc jdk_2750_method_3_code 41 (.invokestatic 35) 3 44 := ⟨by decide +kernel, rfl⟩
theorem k2750_3_44 : Dc jdk_2750_method_3_code 44 (.putfield 26) 3 47 := ⟨by decide +kernel, rfl⟩
theorem k2750_3_47 : Dc jdk_2750_method_3_code 47 (.aload_n 0) 1 48 := ⟨by decide +kernel, rfl⟩
theorem k2750_3_48 : Dc jdk_2750_method_3_code 48 (.aload_n 1) 1 49 := ⟨by decide +kernel, rfl⟩
theorem k2750_3_49 : Dc jdk_2750_method_3_code 49 (.putfield 22) 3 52 := ⟨by decide +kernel, rfl⟩
theorem k2750_3_52 : Dc jdk_2750_method_3_code 52 (.aload_n 1) 1 53 := ⟨by decide +kernel, rfl⟩
theorem k2750_3_53 : Dc jdk_2750_method_3_code 53 (.areturn) 1 54 := ⟨by decide +kernel, rfl⟩
theorem k29_66_0 : Dc jdk_29_method_66_code 0 (.lload_n 0) 1 1 := ⟨by decide +kernel, rfl⟩
theorem k29_66_1 : Dc jdk_29_method_66_code 1 (.lload_n 2) 1 2 := ⟨by decide +kernel, rfl⟩
theorem k29_66_2 : Dc jdk_29_method_66_code 2 (.lcmp) 1 3 := ⟨by decide +kernel, rfl⟩
theorem k29_66_3 : Bc jdk_29_method_66_code 3 (.ifCond .lt) 10 6 := ⟨7, by decide +kernel, by decide, by decide, rfl⟩
theorem k29_66_6 : Dc jdk_29_method_66_code 6 (.lload_n 0) 1 7 := ⟨by decide +kernel, rfl⟩
theorem k29_66_7 : Bc jdk_29_method_66_code 7 (.goto) 11 10 := ⟨4, by decide +kernel, by decide, by decide, rfl⟩
theorem k29_66_10 : Dc jdk_29_method_66_code 10 (.lload_n 2) 1 11 := ⟨by decide +kernel, rfl⟩
theorem k29_66_11 : Dc jdk_29_method_66_code 11 (.lreturn) 1 12 := ⟨by decide +kernel, rfl⟩
theorem k29_70_0 : Dc jdk_29_method_70_code 0 (.lload_n 0) 1 1 := ⟨by decide +kernel, rfl⟩
theorem k29_70_1 : Dc jdk_29_method_70_code 1 (.lload_n 2) 1 2 := ⟨by decide +kernel, rfl⟩
theorem k29_70_2 : Dc jdk_29_method_70_code 2 (.lcmp) 1 3 := ⟨by decide +kernel, rfl⟩
theorem k29_70_3 : Bc jdk_29_method_70_code 3 (.ifCond .gt) 10 6 := ⟨7, by decide +kernel, by decide, by decide, rfl⟩
theorem k29_70_6 : Dc jdk_29_method_70_code 6 (.lload_n 0) 1 7 := ⟨by decide +kernel, rfl⟩
theorem k29_70_7 : Bc jdk_29_method_70_code 7 (.goto) 11 10 := ⟨4, by decide +kernel, by decide, by decide, rfl⟩
theorem k29_70_10 : Dc jdk_29_method_70_code 10 (.lload_n 2) 1 11 := ⟨by decide +kernel, rfl⟩
theorem k29_70_11 : Dc jdk_29_method_70_code 11 (.lreturn) 1 12 := ⟨by decide +kernel, rfl⟩
theorem k31_10_0 : Dc jdk_31_method_10_code 0 (.aload_n 0) 1 1 := ⟨by decide +kernel, rfl⟩
theorem k31_10_1 : Bc jdk_31_method_10_code 1 (.ifnonnull) 12 4 := ⟨11, by decide +kernel, by decide, by decide, rfl⟩
theorem k31_10_12 : Dc jdk_31_method_10_code 12 (.aload_n 0) 1 13 := ⟨by decide +kernel, rfl⟩
theorem k31_10_13 : Dc jdk_31_method_10_code 13 (.areturn) 1 14 := ⟨by decide +kernel, rfl⟩
theorem k35_24_0 : Dc jdk_35_method_24_code 0 (.sipush 128) 3 3 := ⟨by decide +kernel, rfl⟩
theorem k35_24_3 : Dc jdk_35_method_24_code 3 (.istore_n 2) 1 4 := ⟨by decide +kernel, rfl⟩
theorem k35_24_4 : Dc jdk_35_method_24_code 4 (.lload_n 0) 1 5 := ⟨by decide +kernel, rfl⟩
theorem k35_24_5 : Dc jdk_35_method_24_code 5 (.ldc2_w 230) 3 8 := ⟨by decide +kernel, rfl⟩
theorem k35_24_8 : Dc jdk_35_method_24_code 8 (.lcmp) 1 9 := ⟨by decide +kernel, rfl⟩
theorem k35_24_9 : Bc jdk_35_method_24_code 9 (.ifCond .lt) 31 12 := ⟨22, by decide +kernel, by decide, by decide, rfl⟩
theorem k35_24_12 : Dc jdk_35_method_24_code 12 (.lload_n 0) 1 13 := ⟨by decide +kernel, rfl⟩
theorem k35_24_13 : Dc jdk_35_method_24_code 13 (.ldc2_w 232) 3 16 := ⟨by decide +kernel, rfl⟩
theorem k35_24_16 : Dc jdk_35_method_24_code 16 (.lcmp) 1 17 := ⟨by decide +kernel, rfl⟩
theorem k35_24_17 : Bc jdk_35_method_24_code 17 (.ifCond .gt) 31 20 := ⟨14, by decide +kernel, by decide, by decide, rfl⟩
theorem k35_24_20 : Dc jdk_35_method_24_code 20 (.getstatic 234) 3 23 := ⟨by decide +kernel, rfl⟩
theorem k35_24_23 : Dc jdk_35_method_24_code 23 (.lload_n 0) 1 24 := ⟨by decide +kernel, rfl⟩
theorem k35_24_24 : Dc jdk_35_method_24_code 24 (.l2i) 1 25 := ⟨by decide +kernel, rfl⟩
theorem k35_24_25 : Dc jdk_35_method_24_code 25 (.sipush 128) 3 28 := ⟨by decide +kernel, rfl⟩
theorem k35_24_28 : Dc jdk_35_method_24_code 28 (.iadd) 1 29 := ⟨by decide +kernel, rfl⟩
theorem k35_24_29 : Dc jdk_35_method_24_code 29 (.aaload) 1 30 := ⟨by decide +kernel, rfl⟩
theorem k35_24_30 : Dc jdk_35_method_24_code 30 (.areturn) 1 31 := ⟨by decide +kernel, rfl⟩
theorem k35_24_31 : Dc jdk_35_method_24_code 31 (.new 1) 3 34 := ⟨by decide +kernel, rfl⟩
theorem k35_24_34 : Dc jdk_35_method_24_code 34 (.dup) 1 35 := ⟨by decide +kernel, rfl⟩
theorem k35_24_35 : Dc jdk_35_method_24_code 35 (.lload_n 0) 1 36 := ⟨by decide +kernel, rfl⟩
theorem k35_24_36 : Dc jdk_35_method_24_code 36 (.invokespecial 240) 3 39 := ⟨by decide +kernel, rfl⟩
theorem k35_24_39 : Dc jdk_35_method_24_code 39 (.areturn) 1 40 := ⟨by decide +kernel, rfl⟩
theorem k35_26_0 : Dc jdk_35_method_26_code 0 (.aload_n 0) 1 1 := ⟨by decide +kernel, rfl⟩
theorem k35_26_1 : Dc jdk_35_method_26_code 1 (.invokespecial 270) 3 4 := ⟨by decide +kernel, rfl⟩
theorem k35_26_4 : Dc jdk_35_method_26_code 4 (.aload_n 0) 1 5 := ⟨by decide +kernel, rfl⟩
theorem k35_26_5 : Dc jdk_35_method_26_code 5 (.lload_n 1) 1 6 := ⟨by decide +kernel, rfl⟩
theorem k35_26_6 : Dc jdk_35_method_26_code 6 (.putfield 273) 3 9 := ⟨by decide +kernel, rfl⟩
theorem k35_26_9 : Dc jdk_35_method_26_code 9 (.return_) 1 10 := ⟨by decide +kernel, rfl⟩
theorem k35_31_0 : Dc jdk_35_method_31_code 0 (.aload_n 0) 1 1 := ⟨by decide +kernel, rfl⟩
theorem k35_31_1 : Dc jdk_35_method_31_code 1 (.getfield 273) 3 4 := ⟨by decide +kernel, rfl⟩
theorem k35_31_4 : Dc jdk_35_method_31_code 4 (.lreturn) 1 5 := ⟨by decide +kernel, rfl⟩
theorem k35_41_0 : Dc jdk_35_method_41_code 0 (.aload_n 0) 1 1 := ⟨by decide +kernel, rfl⟩
theorem k35_41_1 : Dc jdk_35_method_41_code 1 (.getfield 273) 3 4 := ⟨by decide +kernel, rfl⟩
theorem k35_41_4 : Dc jdk_35_method_41_code 4 (.aload_n 1) 1 5 := ⟨by decide +kernel, rfl⟩
theorem k35_41_5 : Dc jdk_35_method_41_code 5 (.getfield 273) 3 8 := ⟨by decide +kernel, rfl⟩
theorem k35_41_8 : Dc jdk_35_method_41_code 8 (.invokestatic 302) 3 11 := ⟨by decide +kernel, rfl⟩
theorem k35_41_11 : Dc jdk_35_method_41_code 11 (.ireturn) 1 12 := ⟨by decide +kernel, rfl⟩
theorem k35_42_0 : Dc jdk_35_method_42_code 0 (.lload_n 0) 1 1 := ⟨by decide +kernel, rfl⟩
theorem k35_42_1 : Dc jdk_35_method_42_code 1 (.lload_n 2) 1 2 := ⟨by decide +kernel, rfl⟩
theorem k35_42_2 : Dc jdk_35_method_42_code 2 (.lcmp) 1 3 := ⟨by decide +kernel, rfl⟩
theorem k35_42_3 : Bc jdk_35_method_42_code 3 (.ifCond .ge) 10 6 := ⟨7, by decide +kernel, by decide, by decide, rfl⟩
theorem k35_42_6 : Dc jdk_35_method_42_code 6 (.iconst (-1)) 1 7 := ⟨by decide +kernel, rfl⟩
theorem k35_42_7 : Bc jdk_35_method_42_code 7 (.goto) 21 10 := ⟨14, by decide +kernel, by decide, by decide, rfl⟩
theorem k35_42_10 : Dc jdk_35_method_42_code 10 (.lload_n 0) 1 11 := ⟨by decide +kernel, rfl⟩
theorem k35_42_11 : Dc jdk_35_method_42_code 11 (.lload_n 2) 1 12 := ⟨by decide +kernel, rfl⟩
theorem k35_42_12 : Dc jdk_35_method_42_code 12 (.lcmp) 1 13 := ⟨by decide +kernel, rfl⟩
theorem k35_42_13 : Bc jdk_35_method_42_code 13 (.ifCond .ne) 20 16 := ⟨7, by decide +kernel, by decide, by decide, rfl⟩
theorem k35_42_16 : Dc jdk_35_method_42_code 16 (.iconst 0) 1 17 := ⟨by decide +kernel, rfl⟩
theorem k35_42_17 : Bc jdk_35_method_42_code 17 (.goto) 21 20 := ⟨4, by decide +kernel, by decide, by decide, rfl⟩
theorem k35_42_20 : Dc jdk_35_method_42_code 20 (.iconst 1) 1 21 := ⟨by decide +kernel, rfl⟩
theorem k35_42_21 : Dc jdk_35_method_42_code 21 (.ireturn) 1 22 := ⟨by decide +kernel, rfl⟩
theorem k35_64_0 : Dc jdk_35_method_64_code 0 (.aload_n 0) 1 1 := ⟨by decide +kernel, rfl⟩
theorem k35_64_1 : Dc jdk_35_method_64_code 1 (.aload_n 1) 1 2 := ⟨by decide +kernel, rfl⟩
theorem k35_64_2 : Dc jdk_35_method_64_code 2 (.checkcast 1) 3 5 := ⟨by decide +kernel, rfl⟩
theorem k35_64_5 : Dc jdk_35_method_64_code 5 (.invokevirtual 343) 3 8 := ⟨by decide +kernel, rfl⟩
theorem k35_64_8 : Dc jdk_35_method_64_code 8 (.ireturn) 1 9 := ⟨by decide +kernel, rfl⟩
theorem k71_1_0 : Dc jdk_71_method_1_code 0 (.aload_n 0) 1 1 := ⟨by decide +kernel, rfl⟩
theorem k71_1_1 : Dc jdk_71_method_1_code 1 (.invokespecial 1) 3 4 := ⟨by decide +kernel, rfl⟩
theorem k71_1_4 : Dc jdk_71_method_1_code 4 (.return_) 1 5 := ⟨by decide +kernel, rfl⟩
theorem k91_1_0 : Dc jdk_91_method_1_code 0 (.aload_n 0) 1 1 := ⟨by decide +kernel, rfl⟩
theorem k91_1_1 : Dc jdk_91_method_1_code 1 (.invokespecial 1) 3 4 := ⟨by decide +kernel, rfl⟩
theorem k91_1_4 : Dc jdk_91_method_1_code 4 (.return_) 1 5 := ⟨by decide +kernel, rfl⟩
theorem d2_0 : Dc method_2_code 0 (.lload_n 0) 1 1 := ⟨by decide +kernel, rfl⟩
theorem d2_1 : Dc method_2_code 1 (.ldc2_w 7) 3 4 := ⟨by decide +kernel, rfl⟩
theorem d2_4 : Dc method_2_code 4 (.ldiv) 1 5 := ⟨by decide +kernel, rfl⟩
theorem d2_5 : Dc method_2_code 5 (.lstore_n 2) 1 6 := ⟨by decide +kernel, rfl⟩
theorem d2_6 : Dc method_2_code 6 (.lload_n 0) 1 7 := ⟨by decide +kernel, rfl⟩
theorem d2_7 : Dc method_2_code 7 (.lload_n 2) 1 8 := ⟨by decide +kernel, rfl⟩
theorem d2_8 : Dc method_2_code 8 (.ldc2_w 7) 3 11 := ⟨by decide +kernel, rfl⟩
theorem d2_11 : Dc method_2_code 11 (.lmul) 1 12 := ⟨by decide +kernel, rfl⟩
theorem d2_12 : Dc method_2_code 12 (.lsub) 1 13 := ⟨by decide +kernel, rfl⟩
theorem d2_13 : Dc method_2_code 13 (.lstore 4) 2 15 := ⟨by decide +kernel, rfl⟩
theorem d2_15 : Dc method_2_code 15 (.lload 4) 2 17 := ⟨by decide +kernel, rfl⟩
theorem d2_17 : Dc method_2_code 17 (.ldc2_w 9) 3 20 := ⟨by decide +kernel, rfl⟩
theorem d2_20 : Dc method_2_code 20 (.lcmp) 1 21 := ⟨by decide +kernel, rfl⟩
theorem d2_21 : Bc method_2_code 21 (.ifCond .lt) 28 24 := ⟨7, by decide +kernel, by decide, by decide, rfl⟩
theorem d2_24 : Dc method_2_code 24 (.lload_n 2) 1 25 := ⟨by decide +kernel, rfl⟩
theorem d2_25 : Dc method_2_code 25 (.lconst 1) 1 26 := ⟨by decide +kernel, rfl⟩
theorem d2_26 : Dc method_2_code 26 (.ladd) 1 27 := ⟨by decide +kernel, rfl⟩
theorem d2_27 : Dc method_2_code 27 (.lreturn) 1 28 := ⟨by decide +kernel, rfl⟩
theorem d2_28 : Dc method_2_code 28 (.lload_n 2) 1 29 := ⟨by decide +kernel, rfl⟩
theorem d2_29 : Dc method_2_code 29 (.lreturn) 1 30 := ⟨by decide +kernel, rfl⟩
theorem q2_1_0 : Dc prog_2_method_1_code 0 (.aload_n 0) 1 1 := ⟨by decide +kernel, rfl⟩
theorem q2_1_1 : Dc prog_2_method_1_code 1 (.invokespecial 1) 3 4 := ⟨by decide +kernel, rfl⟩
theorem q2_1_4 : Dc prog_2_method_1_code 4 (.aload_n 0) 1 5 := ⟨by decide +kernel, rfl⟩
theorem q2_1_5 : Dc prog_2_method_1_code 5 (.new 7) 3 8 := ⟨by decide +kernel, rfl⟩
theorem q2_1_8 : Dc prog_2_method_1_code 8 (.dup) 1 9 := ⟨by decide +kernel, rfl⟩
theorem q2_1_9 : Dc prog_2_method_1_code 9 (.invokespecial 9) 3 12 := ⟨by decide +kernel, rfl⟩
theorem q2_1_12 : Dc prog_2_method_1_code 12 (.putfield 10) 3 15 := ⟨by decide +kernel, rfl⟩
theorem q2_1_15 : Dc prog_2_method_1_code 15 (.return_) 1 16 := ⟨by decide +kernel, rfl⟩
theorem q2_2_0 : Dc prog_2_method_2_code 0 (.aload_n 0) 1 1 := ⟨by decide +kernel, rfl⟩
theorem q2_2_1 : Dc prog_2_method_2_code 1 (.getfield 10) 3 4 := ⟨by decide +kernel, rfl⟩
theorem q2_2_4 : Dc prog_2_method_2_code 4 (.lload_n 1) 1 5 := ⟨by decide +kernel, rfl⟩
theorem q2_2_5 : Dc prog_2_method_2_code 5 (.ldc2_w 16) 3 8 := ⟨by decide +kernel, rfl⟩
theorem q2_2_8 : Dc prog_2_method_2_code 8 (.ladd) 1 9 := ⟨by decide +kernel, rfl⟩
theorem q2_2_9 : Dc prog_2_method_2_code 9 (.ldc2_w 18) 3 12 := ⟨by decide +kernel, rfl⟩
theorem q2_2_12 : Dc prog_2_method_2_code 12 (.ldiv) 1 13 := ⟨by decide +kernel, rfl⟩
theorem q2_2_13 : Dc prog_2_method_2_code 13 (.invokestatic 20) 3 16 := ⟨by decide +kernel, rfl⟩
theorem q2_2_16 : Dc prog_2_method_2_code 16 (.lconst 1) 1 17 := ⟨by decide +kernel, rfl⟩
theorem q2_2_17 : Dc prog_2_method_2_code 17 (.invokestatic 20) 3 20 := ⟨by decide +kernel, rfl⟩
theorem q2_2_20 : Dc prog_2_method_2_code 20 (.invokedynamic 26) 5 25 := ⟨by decide +kernel, rfl⟩
theorem q2_2_25 : Dc prog_2_method_2_code 25 (.invokevirtual 30) 3 28 := ⟨by decide +kernel, rfl⟩
theorem q2_2_28 : Dc prog_2_method_2_code 28 (.pop) 1 29 := ⟨by decide +kernel, rfl⟩
theorem q2_2_29 : Dc prog_2_method_2_code 29 (.aload_n 0) 1 30 := ⟨by decide +kernel, rfl⟩
theorem q2_2_30 : Dc prog_2_method_2_code 30 (.dup) 1 31 := ⟨by decide +kernel, rfl⟩
theorem q2_2_31 : Dc prog_2_method_2_code 31 (.getfield 34) 3 34 := ⟨by decide +kernel, rfl⟩
theorem q2_2_34 : Dc prog_2_method_2_code 34 (.lconst 1) 1 35 := ⟨by decide +kernel, rfl⟩
theorem q2_2_35 : Dc prog_2_method_2_code 35 (.ladd) 1 36 := ⟨by decide +kernel, rfl⟩
theorem q2_2_36 : Dc prog_2_method_2_code 36 (.putfield 34) 3 39 := ⟨by decide +kernel, rfl⟩
theorem q2_2_39 : Dc prog_2_method_2_code 39 (.return_) 1 40 := ⟨by decide +kernel, rfl⟩
theorem q2_4_0 : Dc prog_2_method_4_code 0 (.aload_n 0) 1 1 := ⟨by decide +kernel, rfl⟩
theorem q2_4_1 : Dc prog_2_method_4_code 1 (.getfield 34) 3 4 := ⟨by decide +kernel, rfl⟩
theorem q2_4_4 : Dc prog_2_method_4_code 4 (.lreturn) 1 5 := ⟨by decide +kernel, rfl⟩
theorem q2_5_0 : Dc prog_2_method_5_code 0 (.lconst 1) 1 1 := ⟨by decide +kernel, rfl⟩
theorem q2_5_1 : Dc prog_2_method_5_code 1 (.aload_n 0) 1 2 := ⟨by decide +kernel, rfl⟩
theorem q2_5_2 : Dc prog_2_method_5_code 2 (.getfield 34) 3 5 := ⟨by decide +kernel, rfl⟩
theorem q2_5_5 : Dc prog_2_method_5_code 5 (.iload_n 1) 1 6 := ⟨by decide +kernel, rfl⟩
theorem q2_5_6 : Dc prog_2_method_5_code 6 (.i2l) 1 7 := ⟨by decide +kernel, rfl⟩
theorem q2_5_7 : Dc prog_2_method_5_code 7 (.lmul) 1 8 := ⟨by decide +kernel, rfl⟩
theorem q2_5_8 : Dc prog_2_method_5_code 8 (.ldc2_w 66) 3 11 := ⟨by decide +kernel, rfl⟩
theorem q2_5_11 : Dc prog_2_method_5_code 11 (.ladd) 1 12 := ⟨by decide +kernel, rfl⟩
theorem q2_5_12 : Dc prog_2_method_5_code 12 (.ldc2_w 68) 3 15 := ⟨by decide +kernel, rfl⟩
theorem q2_5_15 : Dc prog_2_method_5_code 15 (.ldiv) 1 16 := ⟨by decide +kernel, rfl⟩
theorem q2_5_16 : Dc prog_2_method_5_code 16 (.invokestatic 70) 3 19 := ⟨by decide +kernel, rfl⟩
theorem q2_5_19 : Dc prog_2_method_5_code 19 (.lstore_n 2) 1 20 := ⟨by decide +kernel, rfl⟩
theorem q2_5_20 : Dc prog_2_method_5_code 20 (.lconst 0) 1 21 := ⟨by decide +kernel, rfl⟩
theorem q2_5_21 : Dc prog_2_method_5_code 21 (.lstore 4) 2 23 := ⟨by decide +kernel, rfl⟩
theorem q2_5_23 : Dc prog_2_method_5_code 23 (.aload_n 0) 1 24 := ⟨by decide +kernel, rfl⟩
theorem q2_5_24 : Dc prog_2_method_5_code 24 (.getfield 10) 3 27 := ⟨by decide +kernel, rfl⟩
theorem q2_5_27 : Dc prog_2_method_5_code 27 (.invokevirtual 38) 3 30 := ⟨by decide +kernel, rfl⟩
theorem q2_5_30 : Dc prog_2_method_5_code 30 (.invokeinterface 42 1) 5 35 := ⟨by decide +kernel, rfl⟩
theorem q2_5_35 : Dc prog_2_method_5_code 35 (.astore 6) 2 37 := ⟨by decide +kernel, rfl⟩
theorem q2_5_37 : Dc prog_2_method_5_code 37 (.aload 6) 2 39 := ⟨by decide +kernel, rfl⟩
theorem q2_5_39 : Dc prog_2_method_5_code 39 (.invokeinterface 48 1) 5 44 := ⟨by decide +kernel, rfl⟩
theorem q2_5_44 : Bc prog_2_method_5_code 44 (.ifCond .eq) 101 47 := ⟨57, by decide +kernel, by decide, by decide, rfl⟩
theorem q2_5_47 : Dc prog_2_method_5_code 47 (.aload 6) 2 49 := ⟨by decide +kernel, rfl⟩
theorem q2_5_49 : Dc prog_2_method_5_code 49 (.invokeinterface 54 1) 5 54 := ⟨by decide +kernel, rfl⟩
theorem q2_5_54 : Dc prog_2_method_5_code 54 (.checkcast 58) 3 57 := ⟨by decide +kernel, rfl⟩
theorem q2_5_57 : Dc prog_2_method_5_code 57 (.astore 7) 2 59 := ⟨by decide +kernel, rfl⟩
theorem q2_5_59 : Dc prog_2_method_5_code 59 (.lload 4) 2 61 := ⟨by decide +kernel, rfl⟩
theorem q2_5_61 : Dc prog_2_method_5_code 61 (.aload 7) 2 63 := ⟨by decide +kernel, rfl⟩
theorem q2_5_63 : Dc prog_2_method_5_code 63 (.invokeinterface 63 1) 5 68 := ⟨by decide +kernel, rfl⟩
theorem q2_5_68 : Dc prog_2_method_5_code 68 (.checkcast 21) 3 71 := ⟨by decide +kernel, rfl⟩
theorem q2_5_71 : Dc prog_2_method_5_code 71 (.invokevirtual 76) 3 74 := ⟨by decide +kernel, rfl⟩
theorem q2_5_74 : Dc prog_2_method_5_code 74 (.ladd) 1 75 := ⟨by decide +kernel, rfl⟩
theorem q2_5_75 : Dc prog_2_method_5_code 75 (.lstore 4) 2 77 := ⟨by decide +kernel, rfl⟩
theorem q2_5_77 : Dc prog_2_method_5_code 77 (.lload 4) 2 79 := ⟨by decide +kernel, rfl⟩
theorem q2_5_79 : Dc prog_2_method_5_code 79 (.lload_n 2) 1 80 := ⟨by decide +kernel, rfl⟩
theorem q2_5_80 : Dc prog_2_method_5_code 80 (.lcmp) 1 81 := ⟨by decide +kernel, rfl⟩
theorem q2_5_81 : Bc prog_2_method_5_code 81 (.ifCond .lt) 98 84 := ⟨17, by decide +kernel, by decide, by decide, rfl⟩
theorem q2_5_84 : Dc prog_2_method_5_code 84 (.aload 7) 2 86 := ⟨by decide +kernel, rfl⟩
theorem q2_5_86 : Dc prog_2_method_5_code 86 (.invokeinterface 60 1) 5 91 := ⟨by decide +kernel, rfl⟩
theorem q2_5_91 : Dc prog_2_method_5_code 91 (.checkcast 21) 3 94 := ⟨by decide +kernel, rfl⟩
theorem q2_5_94 : Dc prog_2_method_5_code 94 (.invokevirtual 76) 3 97 := ⟨by decide +kernel, rfl⟩
theorem q2_5_97 : Dc prog_2_method_5_code 97 (.lreturn) 1 98 := ⟨by decide +kernel, rfl⟩
theorem q2_5_98 : Bc prog_2_method_5_code 98 (.goto) 37 101 := ⟨(-61), by decide +kernel, by decide, by decide, rfl⟩
theorem pd_0 : parseMethodDescriptor "(JJ)I" = some ⟨[.long, .long], some .int⟩ := by decide +kernel
theorem pd_1 : parseMethodDescriptor "(Ljava/lang/Long;)I" = some ⟨[(.object "java/lang/Long")], some .int⟩ := by decide +kernel
theorem pd_2 : parseMethodDescriptor "(Ljava/lang/Object;)I" = some ⟨[(.object "java/lang/Object")], some .int⟩ := by decide +kernel
theorem pd_3 : parseMethodDescriptor "()V" = some ⟨[], none⟩ := by decide +kernel
theorem pd_4 : parseMethodDescriptor "(J)V" = some ⟨[.long], none⟩ := by decide +kernel
theorem pd_5 : parseMethodDescriptor "(Ljava/util/TreeMap$Entry;)Ljava/util/TreeMap$Entry;" = some ⟨[(.object "java/util/TreeMap$Entry")], some (.object "java/util/TreeMap$Entry")⟩ := by decide +kernel
theorem pd_6 : parseMethodDescriptor "(Ljava/util/TreeMap$Entry;)Z" = some ⟨[(.object "java/util/TreeMap$Entry")], some .boolean⟩ := by decide +kernel
theorem pd_7 : parseMethodDescriptor "(Ljava/util/TreeMap$Entry;Z)V" = some ⟨[(.object "java/util/TreeMap$Entry"), .boolean], none⟩ := by decide +kernel
theorem pd_8 : parseMethodDescriptor "(Ljava/util/TreeMap$Entry;)V" = some ⟨[(.object "java/util/TreeMap$Entry")], none⟩ := by decide +kernel
theorem pd_9 : parseMethodDescriptor "(Ljava/lang/Object;Ljava/lang/Object;Ljava/util/TreeMap$Entry;)V" = some ⟨[(.object "java/lang/Object"), (.object "java/lang/Object"), (.object "java/util/TreeMap$Entry")], none⟩ := by decide +kernel
theorem pd_10 : parseMethodDescriptor "(Ljava/lang/Object;Ljava/lang/Object;)I" = some ⟨[(.object "java/lang/Object"), (.object "java/lang/Object")], some .int⟩ := by decide +kernel
theorem pd_11 : parseMethodDescriptor "(Ljava/lang/Object;)Ljava/lang/Object;" = some ⟨[(.object "java/lang/Object")], some (.object "java/lang/Object")⟩ := by decide +kernel
theorem pd_12 : parseMethodDescriptor "(Ljava/lang/Object;Ljava/lang/Object;)V" = some ⟨[(.object "java/lang/Object"), (.object "java/lang/Object")], none⟩ := by decide +kernel
theorem pd_13 : parseMethodDescriptor "(Ljava/util/TreeMap$Entry;Ljava/lang/Object;Ljava/util/function/BiFunction;)Ljava/lang/Object;" = some ⟨[(.object "java/util/TreeMap$Entry"), (.object "java/lang/Object"), (.object "java/util/function/BiFunction")], some (.object "java/lang/Object")⟩ := by decide +kernel
theorem pd_14 : parseMethodDescriptor "(Ljava/lang/Object;Ljava/lang/Object;Ljava/util/TreeMap$Entry;Z)V" = some ⟨[(.object "java/lang/Object"), (.object "java/lang/Object"), (.object "java/util/TreeMap$Entry"), .boolean], none⟩ := by decide +kernel
theorem pd_15 : parseMethodDescriptor "(J)Ljava/lang/Long;" = some ⟨[.long], some (.object "java/lang/Long")⟩ := by decide +kernel
theorem pd_16 : parseMethodDescriptor "(Ljava/lang/Object;Ljava/lang/Object;Ljava/util/function/BiFunction;)Ljava/lang/Object;" = some ⟨[(.object "java/lang/Object"), (.object "java/lang/Object"), (.object "java/util/function/BiFunction")], some (.object "java/lang/Object")⟩ := by decide +kernel
theorem pd_17 : parseMethodDescriptor "(Ljava/util/TreeMap;Ljava/util/TreeMap$Entry;)V" = some ⟨[(.object "java/util/TreeMap"), (.object "java/util/TreeMap$Entry")], none⟩ := by decide +kernel
theorem pd_18 : parseMethodDescriptor "()Ljava/util/TreeMap$Entry;" = some ⟨[], some (.object "java/util/TreeMap$Entry")⟩ := by decide +kernel
theorem pd_19 : parseMethodDescriptor "()Ljava/util/Map$Entry;" = some ⟨[], some (.object "java/util/Map$Entry")⟩ := by decide +kernel
theorem pd_20 : parseMethodDescriptor "(Ljava/util/TreeMap;)V" = some ⟨[(.object "java/util/TreeMap")], none⟩ := by decide +kernel
theorem pd_21 : parseMethodDescriptor "(JJ)J" = some ⟨[.long, .long], some .long⟩ := by decide +kernel
theorem pd_22 : parseMethodDescriptor "()Ljava/util/Set;" = some ⟨[], some (.object "java/util/Set")⟩ := by decide +kernel
theorem pd_23 : parseMethodDescriptor "()Ljava/util/Iterator;" = some ⟨[], some (.object "java/util/Iterator")⟩ := by decide +kernel
theorem pd_24 : parseMethodDescriptor "()Z" = some ⟨[], some .boolean⟩ := by decide +kernel
theorem pd_25 : parseMethodDescriptor "()Ljava/lang/Object;" = some ⟨[], some (.object "java/lang/Object")⟩ := by decide +kernel
theorem pd_26 : parseMethodDescriptor "()J" = some ⟨[], some .long⟩ := by decide +kernel
theorem pd_27 : parseMethodDescriptor "(J)J" = some ⟨[.long], some .long⟩ := by decide +kernel
theorem pd_28 : parseMethodDescriptor "(I)J" = some ⟨[.int], some .long⟩ := by decide +kernel
theorem pn_0 : plainName "java/util/Objects" = true := by first | (simp [plainName, overriddenIn]; done) | decide +kernel
theorem pn_1 : plainName "java/lang/Long" = true := by first | (simp [plainName, overriddenIn]; done) | decide +kernel
theorem pn_2 : plainName "java/util/TreeMap" = true := by first | (simp [plainName, overriddenIn]; done) | decide +kernel
theorem pn_3 : plainName "java/lang/Number" = true := by first | (simp [plainName, overriddenIn]; done) | decide +kernel
theorem pn_4 : plainName "java/util/AbstractMap" = true := by first | (simp [plainName, overriddenIn]; done) | decide +kernel
theorem pn_5 : plainName "java/util/AbstractCollection" = true := by first | (simp [plainName, overriddenIn]; done) | decide +kernel
theorem pn_6 : plainName "java/util/AbstractSet" = true := by first | (simp [plainName, overriddenIn]; done) | decide +kernel
theorem pn_7 : plainName "com/example/bounded_lock/boundedlock/cli/RoundTimes" = true := by first | (simp [plainName, overriddenIn]; done) | decide +kernel
theorem pn_8 : plainName "java/util/TreeMap$Entry" = true := by first | (simp [plainName, overriddenIn]; done) | decide +kernel
theorem pn_9 : plainName "java/util/TreeMap$PrivateEntryIterator" = true := by first | (simp [plainName, overriddenIn]; done) | decide +kernel
theorem pn_10 : plainName "java/util/TreeMap$EntryIterator" = true := by first | (simp [plainName, overriddenIn]; done) | decide +kernel
theorem pn_11 : plainName "java/util/TreeMap$EntrySet" = true := by first | (simp [plainName, overriddenIn]; done) | decide +kernel
theorem pn_12 : plainName "com/example/bounded_lock/boundedlock/cli/RoundTimesAddPinLaw" = true := by first | (simp [plainName, overriddenIn]; done) | decide +kernel
variable {l : Launch} {Z : State} {a0 : Array Value} {n0 : Nat}
theorem m_rnn (hw : own_hw a0 Z) {h0 : Heap} {a : Addr}  :
    Does l Z n0 ⟨"java/util/Objects", "requireNonNull", "(Ljava/lang/Object;)Ljava/lang/Object;"⟩ jdk_31_method_10_code 1 (some (.object "java/lang/Object")) [] { frames := 0, cells := 0, slots := 0, locals := 0 } #[(.ref a)] h0 (fun v h => v = some (.ref a) ∧ h0 = h) := by
  refine Does.start (plainFor_of_name pn_0) ?_
  intro p e s m below meth c T X
  replace X : Sd _ _ _ _ _ "java/util/Objects" "requireNonNull" _ _ _ _ _ _ _ _ _ _ _ _ _ _ _ _ := X
  refine Wp.cast (g' := mkF m 0 #[.val (.ref a)] []) (by first | (simp [entryFrame, mkF, argsToLocals, Value.category, maxLocals]; done) | rfl) ?_
  refine w_aloadN X k31_10_0 rfl (rfl) ?_
  refine w_ifnonnullT X k31_10_1 ?_
  refine w_aloadN X k31_10_12 rfl (rfl) ?_
  exact w_retR X rfl (rfl) rfl k31_10_13 ⟨rfl, rfl⟩ (by decide) (by decide)
theorem m_lc (hw : own_hw a0 Z) {h0 : Heap} {x y : Int64}  :
    Does l Z n0 ⟨"java/lang/Long", "compare", "(JJ)I"⟩ jdk_35_method_42_code 4 (some .int) [] { frames := 0, cells := 0, slots := 0, locals := 0 } #[(.long x), (.long y)] h0 (fun v h => v = some (.int (own_cmp x y)) ∧ h0 = h) := by
  refine Does.start (plainFor_of_name pn_1) ?_
  intro p e s m below meth c T X
  replace X : Sd _ _ _ _ _ "java/lang/Long" "compare" _ _ _ _ _ _ _ _ _ _ _ _ _ _ _ _ := X
  refine Wp.cast (g' := mkF m 0 #[.val (.long x), .second, .val (.long y), .second] []) (by first | (simp [entryFrame, mkF, argsToLocals, Value.category, maxLocals]; done) | rfl) ?_
  refine w_lloadN X k35_42_0 rfl ?_
  refine w_lloadN X k35_42_1 rfl ?_
  refine w_lge X k35_42_2 k35_42_3 (fun (hc3 : ¬ x < y) => ?_) (fun (hc3 : x < y) => ?_)
  · refine w_lloadN X k35_42_10 rfl ?_
    refine w_lloadN X k35_42_11 rfl ?_
    refine w_lne X k35_42_12 k35_42_13 (fun (hc13 : ¬ x = y) => ?_) (fun (hc13 : x = y) => ?_)
    · refine w_iconst X (1 : Int32) k35_42_20 rfl ?_
      exact w_retI X k35_42_21 ⟨by rw [own_cmp, if_neg hc3, if_neg hc13], rfl⟩ (by decide) (by decide)
    · refine w_iconst X (0 : Int32) k35_42_16 rfl ?_
      refine w_goto X k35_42_17 ?_
      exact w_retI X k35_42_21 ⟨by rw [own_cmp, if_neg hc3, if_pos hc13], rfl⟩ (by decide) (by decide)
  · refine w_iconst X (-1 : Int32) k35_42_6 rfl ?_
    refine w_goto X k35_42_7 ?_
    exact w_retI X k35_42_21 ⟨by rw [own_cmp, if_pos hc3], rfl⟩ (by decide) (by decide)
theorem m_ct1 (hw : own_hw a0 Z) {h0 : Heap} {a b : Addr} {x y : Int64} (Ja : own_J Z h0 a x) (Jb : own_J Z h0 b y) :
    Does l Z n0 ⟨"java/lang/Long", "compareTo", "(Ljava/lang/Long;)I"⟩ jdk_35_method_41_code 2 (some .int) [] { frames := 1, cells := 0, slots := 0, locals := 15 } #[(.ref a), (.ref b)] h0 (fun v h => v = some (.int (own_cmp x y)) ∧ h0 = h) := by
  refine Does.start (plainFor_of_name pn_1) ?_
  intro p e s m below meth c T X
  replace X : Sd _ _ _ _ _ "java/lang/Long" "compareTo" _ _ _ _ _ _ _ _ _ _ _ _ _ _ _ _ := X
  refine Wp.cast (g' := mkF m 0 #[.val (.ref a), .val (.ref b)] []) (by first | (simp [entryFrame, mkF, argsToLocals, Value.category, maxLocals]; done) | rfl) ?_
  refine w_aloadN X k35_41_0 rfl (rfl) ?_
  refine w_getF X k35_41_1 (host := "") (Or.inl (wd_99 hw)) Via.refl Ja.2 (fun T X => ?_)
  refine w_aloadN X k35_41_4 rfl (rfl) ?_
  refine w_getF X k35_41_5 (host := "") (Or.inl (wd_99 hw)) Via.refl Jb.2 (fun T X => ?_)
  refine w_callS X k35_41_8 (wd_101 hw) (wd_102 hw) (wd_53 hw) (wd_103 hw) (by decide) (argsL := [(.long x), (.long y)]) (S := []) (m_lc hw) pd_0 rfl rfl rfl (by decide) (leR rfl) (by decide) (by decide) (fun T h1 v1 L1 X q1 => ?_)
  obtain ⟨rfl, rfl⟩ := q1
  show Wp _ _ _ _ (T.setTop (mkF _ _ _ [(.int (own_cmp x y))]))
  exact w_retI X k35_41_11 ⟨rfl, rfl⟩ (by decide) (by decide)
theorem m_ct2 (hw : own_hw a0 Z) {h0 : Heap} {a b : Addr} {x y : Int64} (Ja : own_J Z h0 a x) (Jb : own_J Z h0 b y) :
    Does l Z n0 ⟨"java/lang/Long", "compareTo", "(Ljava/lang/Object;)I"⟩ jdk_35_method_64_code 2 (some .int) [] { frames := 2, cells := 0, slots := 0, locals := 28 } #[(.ref a), (.ref b)] h0 (fun v h => v = some (.int (own_cmp x y)) ∧ h0 = h) := by
  refine Does.start (plainFor_of_name pn_1) ?_
  intro p e s m below meth c T X
  replace X : Sd _ _ _ _ _ "java/lang/Long" "compareTo" _ _ _ _ _ _ _ _ _ _ _ _ _ _ _ _ := X
  refine Wp.cast (g' := mkF m 0 #[.val (.ref a), .val (.ref b)] []) (by first | (simp [entryFrame, mkF, argsToLocals, Value.category, maxLocals]; done) | rfl) ?_
  refine w_aloadN X k35_64_0 rfl (rfl) ?_
  refine w_aloadN X k35_64_1 rfl (rfl) ?_
  refine w_cast X k35_64_2 (wd_93 hw) (Ins.self Jb.1) (fun T X => ?_)
  have jq1 : own_J Z h0 a x := ⟨Ja.1, Ja.2⟩
  have jq2 : own_J Z h0 b y := ⟨Jb.1, Jb.2⟩
  refine w_callV X k35_64_5 (wd_94 hw) (wd_95 hw) (notFace_of_selects (args := #[]) (mvT X.hZ (wd_97 hw))) (wd_97 hw) (wd_96 hw) (wd_53 hw) (wd_98 hw) (by decide) Ja.1 (argsL := [(.ref b)]) (S := []) (m_ct1 hw jq1 jq2) pd_1 rfl rfl rfl (by decide) (leR rfl) (by decide) (by decide) (fun T h1 v1 L1 X q1 => ?_)
  obtain ⟨rfl, rfl⟩ := q1
  show Wp _ _ _ _ (T.setTop (mkF _ _ _ [(.int (own_cmp x y))]))
  exact w_retI X k35_64_8 ⟨rfl, rfl⟩ (by decide) (by decide)
theorem m_ctm (hw : own_hw a0 Z) {h0 : Heap} {a b : Addr} {x y : Int64} {tm : Addr} (Ja : own_J Z h0 a x) (Jb : own_J Z h0 b y) (Fc : Fld Z h0 tm "java/util/TreeMap" "comparator" "Ljava/util/Comparator;" .null) :
    Does l Z n0 ⟨"java/util/TreeMap", "compare", "(Ljava/lang/Object;Ljava/lang/Object;)I"⟩ jdk_2729_method_67_code 3 (some .int) [] { frames := 3, cells := 0, slots := 0, locals := 41 } #[(.ref tm), (.ref a), (.ref b)] h0 (fun v h => v = some (.int (own_cmp x y)) ∧ h0 = h) := by
  refine Does.start (plainFor_of_name pn_2) ?_
  intro p e s m below meth c T X
  replace X : Sd _ _ _ _ _ "java/util/TreeMap" "compare" _ _ _ _ _ _ _ _ _ _ _ _ _ _ _ _ := X
  refine Wp.cast (g' := mkF m 0 #[.val (.ref tm), .val (.ref a), .val (.ref b)] []) (by first | (simp [entryFrame, mkF, argsToLocals, Value.category, maxLocals]; done) | rfl) ?_
  refine w_aloadN X k2729_67_0 rfl (rfl) ?_
  refine w_getF X k2729_67_1 (host := "") (Or.inl (wd_40 hw)) Via.refl Fc (fun T X => ?_)
  refine w_ifnonnullF X k2729_67_4 ?_
  refine w_aloadN X k2729_67_7 rfl (rfl) ?_
  refine w_cast X k2729_67_8 (wd_83 hw) (Ins.of_exa Ja.1 (wd_84 hw)) (fun T X => ?_)
  refine w_aloadN X k2729_67_11 rfl (rfl) ?_
  have jq1 : own_J Z h0 a x := ⟨Ja.1, Ja.2⟩
  have jq2 : own_J Z h0 b y := ⟨Jb.1, Jb.2⟩
  refine w_callN X k2729_67_12 (wd_85 hw) (wd_86 hw) (wd_87 hw) (wd_88 hw) (wd_89 hw) (wd_90 hw) (wd_91 hw) (wd_84 hw) (wd_53 hw) (wd_92 hw) (by decide) Ja.1 (argsL := [(.ref b)]) (S := []) (m_ct2 hw jq1 jq2) pd_2 rfl rfl rfl (by decide) (leR rfl) (by decide) (by decide) (fun T h1 v1 L1 X q1 => ?_)
  obtain ⟨rfl, rfl⟩ := q1
  show Wp _ _ _ _ (T.setTop (mkF _ _ _ [(.int (own_cmp x y))]))
  refine w_goto X k2729_67_17 ?_
  exact w_retI X k2729_67_31 ⟨rfl, rfl⟩ (by decide) (by decide)
theorem m_nin (hw : own_hw a0 Z) {h0 : Heap} {a : Addr}  :
    Does l Z n0 ⟨"java/lang/Number", "<init>", "()V"⟩ jdk_18_method_1_code 1 none [] { frames := 1, cells := 0, slots := 0, locals := 12 } #[(.ref a)] h0 (fun v h => v = none ∧ h0 = h) := by
  refine Does.start (plainFor_of_name pn_3) ?_
  intro p e s m below meth c T X
  replace X : Sd _ _ _ _ _ "java/lang/Number" "<init>" _ _ _ _ _ _ _ _ _ _ _ _ _ _ _ _ := X
  refine Wp.cast (g' := mkF m 0 #[.val (.ref a)] []) (by first | (simp [entryFrame, mkF, argsToLocals, Value.category, maxLocals]; done) | rfl) ?_
  refine w_aloadN X k18_1_0 rfl (rfl) ?_
  refine w_initO X k18_1_1 (wd_149 hw) (wd_21 hw) (wd_22 hw) rfl (by decide) (leR rfl) (fun T X => ?_)
  exact w_retV X k18_1_4 ⟨rfl, rfl⟩ (by decide) (by decide)
theorem m_lin (hw : own_hw a0 Z) {h0 : Heap} {a : Addr} {x y : Int64} (ga : n0 ≤ a) (Ea : Exa Z h0 a "java/lang/Long") (Fa : Fld Z h0 a "java/lang/Long" "value" "J" (.long y)) :
    Does l Z n0 ⟨"java/lang/Long", "<init>", "(J)V"⟩ jdk_35_method_26_code 3 none [] { frames := 2, cells := 0, slots := 0, locals := 24 } #[(.ref a), (.long x)] h0 (fun v h => v = none ∧ own_J Z h a x ∧ Keep h0 h [a]) := by
  refine Does.start (plainFor_of_name pn_1) ?_
  intro p e s m below meth c T X
  replace X : Sd _ _ _ _ _ "java/lang/Long" "<init>" _ _ _ _ _ _ _ _ _ _ _ _ _ _ _ _ := X
  refine Wp.cast (g' := mkF m 0 #[.val (.ref a), .val (.long x), .second] []) (by first | (simp [entryFrame, mkF, argsToLocals, Value.category, maxLocals]; done) | rfl) ?_
  refine w_aloadN X k35_26_0 rfl (rfl) ?_
  refine w_callI X k35_26_1 rfl (wd_143 hw) (wd_144 hw) (wd_147 hw) (wd_148 hw) (by decide) (argsL := []) (S := []) (m_nin hw) pd_3 rfl rfl rfl (by decide) (leR rfl) (by decide) (by decide) (fun T h1 v1 L1 X q1 => ?_)
  obtain ⟨rfl, rfl⟩ := q1
  show Wp _ _ _ _ (T.setTop (mkF _ _ _ []))
  refine w_aloadN X k35_26_4 rfl (rfl) ?_
  refine w_lloadN X k35_26_5 rfl ?_
  refine w_putF X k35_26_6 (host := "") (Or.inl (wd_99 hw)) Via.refl Fa Ea (Or.inr ⟨(wd_100 hw), rfl, rfl⟩) (wd_139 hw) (ty := .long) (by decide) rfl rfl ga (fun T h2 X W2 => ?_)
  have f1 := Fa.same W2
  have K2 : Keep h0 h2 [a] := (Keep.refl h0 [a]).wr W2 (Or.inl (List.mem_of_getElem? (i := 0) rfl))
  have f3 := (Ea.wr W2)
  exact w_retV X k35_26_9 ⟨rfl, ⟨f3, f1⟩, K2⟩ (by decide) (by decide)
theorem m_vof (hw : own_hw a0 Z) {h0 : Heap} {x : Int64} {ca : Addr} {cc : Cell}  (hC : own_C Z ca cc) :
    Does l Z n0 ⟨"java/lang/Long", "valueOf", "(J)Ljava/lang/Long;"⟩ jdk_35_method_24_code 3 (some (.object "java/lang/Long")) [] { frames := 3, cells := 1, slots := 1, locals := 39 } #[(.long x)] h0 (fun v h => ∃ b, v = some (.ref b) ∧ own_J Z h b x ∧ Keep h0 h []) := by
  refine Does.start (plainFor_of_name pn_1) ?_
  intro p e s m below meth c T X
  replace X : Sd _ _ _ _ _ "java/lang/Long" "valueOf" _ _ _ _ _ _ _ _ _ _ _ _ _ _ _ _ := X
  refine Wp.cast (g' := mkF m 0 #[.val (.long x), .second, .unset] []) (by first | (simp [entryFrame, mkF, argsToLocals, Value.category, maxLocals]; done) | rfl) ?_
  refine w_sipush X (128 : Int32) k35_24_0 rfl ?_
  refine w_istoreN X #[.val (.long x), .second, .val (.int (128 : Int32))] k35_24_3 rfl ?_
  refine w_lloadN X k35_24_4 rfl ?_
  refine w_ldc2J X k35_24_5 (wd_55 hw) ?_
  refine w_llt X k35_24_8 k35_24_9 (fun (hc9 : x < (-128 : Int64)) => ?_) (fun (hc9 : ¬ x < (-128 : Int64)) => ?_)
  · refine w_new X k35_24_31 (wd_93 hw) (wd_139 hw) (wd_53 hw) (by decide) (by decide) (fun T h1 b1 g1 gn1 X E1 A1 D1 => ?_)
    have sz_b1 : h0.size ≤ b1 := Nat.le_trans (Keep.refl h0 []).1 (Nat.le_of_eq g1.symm)
    have K1 : Keep h0 h1 [] := (Keep.refl h0 []).ext E1
    refine w_dup X k35_24_34 rfl ?_
    refine w_lloadN X k35_24_35 rfl ?_
    refine w_callI X k35_24_36 rfl (wd_140 hw) (wd_141 hw) (wd_53 hw) (wd_142 hw) (by decide) (argsL := [(.long x)]) (S := [(.ref b1)]) (m_lin hw gn1 A1 (show Fld Z h1 b1 "java/lang/Long" "value" "J" (.long (0 : Int64)) from D1 (Or.inr (wd_100 hw)) (ty := .long) (by decide))) pd_4 rfl rfl rfl (by decide) (leR rfl) (by decide) (by decide) (fun T h2 v2 L2 X q2 => ?_)
    obtain ⟨rfl, Jn2, Kc2⟩ := q2
    have K2 : Keep h0 h2 [] := K1.trans Kc2 (fun x hx => by cases List.mem_singleton.mp hx; exact (Or.inr sz_b1))
    show Wp _ _ _ _ (T.setTop (mkF _ _ _ [(.ref b1)]))
    exact w_retR X rfl (rfl) rfl k35_24_39 ⟨_, rfl, ⟨Jn2.1, Jn2.2⟩, K2⟩ (by decide) (by decide)
  · refine w_lloadN X k35_24_12 rfl ?_
    refine w_ldc2J X k35_24_13 (wd_56 hw) ?_
    refine w_lgt X k35_24_16 k35_24_17 (fun (hc17 : (127 : Int64) < x) => ?_) (fun (hc17 : ¬ (127 : Int64) < x) => ?_)
    · refine w_new X k35_24_31 (wd_93 hw) (wd_139 hw) (wd_53 hw) (by decide) (by decide) (fun T h3 b3 g3 gn3 X E3 A3 D3 => ?_)
      have sz_b3 : h0.size ≤ b3 := Nat.le_trans (Keep.refl h0 []).1 (Nat.le_of_eq g3.symm)
      have K3 : Keep h0 h3 [] := (Keep.refl h0 []).ext E3
      refine w_dup X k35_24_34 rfl ?_
      refine w_lloadN X k35_24_35 rfl ?_
      refine w_callI X k35_24_36 rfl (wd_140 hw) (wd_141 hw) (wd_53 hw) (wd_142 hw) (by decide) (argsL := [(.long x)]) (S := [(.ref b3)]) (m_lin hw gn3 A3 (show Fld Z h3 b3 "java/lang/Long" "value" "J" (.long (0 : Int64)) from D3 (Or.inr (wd_100 hw)) (ty := .long) (by decide))) pd_4 rfl rfl rfl (by decide) (leR rfl) (by decide) (by decide) (fun T h4 v4 L4 X q4 => ?_)
      obtain ⟨rfl, Jn4, Kc4⟩ := q4
      have K4 : Keep h0 h4 [] := K3.trans Kc4 (fun x hx => by cases List.mem_singleton.mp hx; exact (Or.inr sz_b3))
      show Wp _ _ _ _ (T.setTop (mkF _ _ _ [(.ref b3)]))
      exact w_retR X rfl (rfl) rfl k35_24_39 ⟨_, rfl, ⟨Jn4.1, Jn4.2⟩, K4⟩ (by decide) (by decide)
    · refine w_getS X k35_24_20 (host := "") (Or.inl (wd_57 hw)) Via.refl (hC.1.ext X.old.2) (fun T X => ?_)
      refine w_lloadN X k35_24_23 rfl ?_
      refine w_l2i X k35_24_24 ?_
      refine w_sipush X (128 : Int32) k35_24_25 rfl ?_
      refine w_iadd X k35_24_28 ?_
      refine w_aaloadC X k35_24_29 hC hc9 hc17 (fun bc Jc => ?_)
      exact w_retR X rfl (rfl) rfl k35_24_30 ⟨_, rfl, ⟨Jc.1, Jc.2⟩, (Keep.refl h0 [])⟩ (by decide) (by decide)
def own_σ : Lambda.Shape := (Jvm.Lambda.Shape.mk "java/util/function/BiFunction" "apply" (Jvm.ClassFile.MethodDescriptor.mk ([(Jvm.ClassFile.FieldType.object "java/lang/Object"), (Jvm.ClassFile.FieldType.object "java/lang/Object")] : List Jvm.ClassFile.FieldType) (Option.some (Jvm.ClassFile.FieldType.object "java/lang/Object"))) ([] : List Jvm.ClassFile.FieldType) (6 : Nat) "java/lang/Long" "sum" (Jvm.ClassFile.MethodDescriptor.mk ([Jvm.ClassFile.FieldType.long, Jvm.ClassFile.FieldType.long] : List Jvm.ClassFile.FieldType) (Option.some Jvm.ClassFile.FieldType.long)) false (Jvm.ClassFile.MethodDescriptor.mk ([(Jvm.ClassFile.FieldType.object "java/lang/Long"), (Jvm.ClassFile.FieldType.object "java/lang/Long")] : List Jvm.ClassFile.FieldType) (Option.some (Jvm.ClassFile.FieldType.object "java/lang/Long"))))
def own_D : ClassFile := (own_σ.file "com/example/bounded_lock/boundedlock/cli/RoundTimes").getD { minorVersion := 0, majorVersion := 0, constantPool := #[], accessFlags := 0, thisClass := 0, superClass := 0, interfaces := #[], fields := #[], methods := #[], attributes := #[] }
def own_fwd : Method := ((layoutMethods own_D).bind (·[1]?)).getD default
def own_fwdB : ByteArray := Jvm.Free.TallyW.LSumMade.fwdB
theorem own_file : own_σ.file "com/example/bounded_lock/boundedlock/cli/RoundTimes" = some own_D := by
  have h : (own_σ.file "com/example/bounded_lock/boundedlock/cli/RoundTimes").isSome = true := by decide +kernel
  obtain ⟨x, hx⟩ := Option.isSome_iff_exists.mp h
  simp [own_D, hx]
theorem own_second : ∀ ms, layoutMethods own_D = some ms → ms[1]? = some own_fwd := by
  intro ms hms
  have h : ((layoutMethods own_D).bind (·[1]?)).isSome = true := by decide +kernel
  obtain ⟨x, hx⟩ := Option.isSome_iff_exists.mp h
  have hf : own_fwd = x := by simp [own_fwd, hx]
  rw [hms] at hx
  rw [hf]
  exact hx
theorem own_fcode : (own_fwd.code.map fun c => (c.code.data, c.maxLocals)) = some (own_fwdB.data, 3) := by decide +kernel
theorem own_fflags : (own_fwd.accessFlags, own_fwd.name, own_fwd.sig.returnType) = (0x0001, "apply", (some (.object "java/lang/Object") : Option FieldType)) := by decide +kernel
theorem own_eM : own_D.constantPool[22]? = some (.methodref 14 21) ∧ own_D.constantPool.className? 14 = some "java/lang/Long" ∧ own_D.constantPool.nameAndType? 21 = some ("sum", "(JJ)J") := by decide +kernel
theorem own_eC : own_D.constantPool[14]? = some (.class_ 13) ∧ own_D.constantPool.string? 13 = some "java/lang/Long" ∧ 14 ≠ own_D.thisClass := by decide +kernel
theorem own_eX0 : own_D.constantPool[18]? = some (.methodref 14 17) ∧ own_D.constantPool.className? 14 = some "java/lang/Long" ∧ own_D.constantPool.nameAndType? 17 = some ("longValue", "()J") := by decide +kernel
theorem own_eX1 : own_D.constantPool[26]? = some (.methodref 14 25) ∧ own_D.constantPool.className? 14 = some "java/lang/Long" ∧ own_D.constantPool.nameAndType? 25 = some ("valueOf", "(J)Ljava/lang/Long;") := by decide +kernel
def own_L (Z : State) (cF : ClassId) (lam : Addr) : Prop := Z.lambdaAt? ⟨"com/example/bounded_lock/boundedlock/cli/RoundTimes", "add", "(J)V"⟩ 20 26 own_σ = some (cF, some lam)
def own_sN : MethodName := ⟨"java/lang/Long", "sum", "(JJ)J"⟩
def own_lN : MethodName := ⟨"java/lang/Long", "longValue", "()J"⟩
def own_vN : MethodName := ⟨"java/lang/Long", "valueOf", "(J)Ljava/lang/Long;"⟩
def own_aN : MethodName := ⟨"java/util/function/BiFunction", "apply", "(Ljava/lang/Object;Ljava/lang/Object;)Ljava/lang/Object;"⟩
theorem own_named {Z : State} {a0 : Array Value} {y : MethodName} {b : ByteArray} {n : Nat} {r : Option FieldType} (h : (Jvm.Cond.code y b n r).before a0 Z = true) : ∃ t, Z.methodNamed? y = some t := by
  cases hn : Z.methodNamed? y with
  | none => simp [Jvm.Cond.before, Jvm.Cond.holds, Jvm.Cond.value, hn] at h
  | some t => exact ⟨t, rfl⟩
theorem own_made {Z : State} {d c : ClassId} {dk : Class} {tS tL tV : MethodId} (hd : Z.vm.classes[d]? = some dk) (hname : dk.name = "com/example/bounded_lock/boundedlock/cli/RoundTimes") (h : Lambda.isMade { classPath := fun _ => none } Z.vm d own_σ c = true)
    (hS : Z.methodNamed? own_sN = some tS) (hL : Z.methodNamed? own_lN = some tL) (hV : Z.methodNamed? own_vN = some tV) :
    ∃ (k tk : Class) (file : ClassFile) (methk : Method) (ck : Code) (toy : ClassId),
      Z.vm.classes[c]? = some k ∧ k.name = "com/example/bounded_lock/boundedlock/cli/RoundTimes$$Lambda" ∧ k.cf = some file ∧ file.constantPool = own_D.constantPool ∧
      Z.vm.method? ⟨c, 1⟩ = some methk ∧ methk.code = some ck ∧ ck.code = own_fwdB ∧ ck.maxLocals = 3 ∧ methk.locks = false ∧ methk.accessFlags = 0x0001 ∧ methk.sig.returnType = some (.object "java/lang/Object") ∧
      Z.vm.findClass "java/lang/Long" = some toy ∧ Z.vm.classes[toy]? = some tk ∧ tk.isInterface = false ∧
      k.resolved[22]? = some (some (.method tS)) ∧ k.resolved[14]? = some (some (.cls toy)) ∧ k.resolved[18]? = some (some (.method tL)) ∧ k.resolved[26]? = some (some (.method tV)) := by
  obtain ⟨dk', k, ok, tk, file, cf, object, iface, toy, lay, methods, target, found, hd', hk, hfile, hcf, hobj, -, hok, hlay, hms, ht, htk, hg, -, hrec, -, -, -, hitf, hpool, hmeth, hfields, -, hres, -⟩ := Lambda.isMade_spec h
  cases hd.symm.trans hd'
  rw [hname, own_file] at hcf
  cases hcf
  obtain ⟨b, hb, hsame⟩ := hmeth 1 own_fwd (own_second methods hms)
  simp only [Lambda.sameMethod, Bool.and_eq_true, decide_eq_true_eq] at hsame
  obtain ⟨⟨hn, -, hsig, hfl⟩, hcode⟩ := hsame
  have fc := own_fcode
  have ff := own_fflags
  simp only [Prod.mk.injEq] at ff
  have hy : ("java/lang/Long" : String) ≠ "java/lang/invoke/MethodHandle" ∧ ("java/lang/Long" : String) ≠ "java/lang/invoke/VarHandle" := by decide
  cases hfc : own_fwd.code with
  | none => rw [hfc] at fc; cases fc
  | some x =>
    cases hbc : b.code with
    | none => simp [hfc, hbc] at hcode
    | some y =>
      simp only [hfc, hbc, Bool.and_eq_true, decide_eq_true_eq] at hcode
      simp only [hfc, Option.map_some, Option.some.injEq, Prod.mk.injEq] at fc
      refine ⟨k, tk, file, b, y, toy, hk, by rw [hrec.1, hname]; rfl, hfile, hpool.2.1, by simp [Vm.method?, hk, hb], hbc, ?_, by rw [← hcode.1.1.1.1.2.1]; exact fc.2, ?_, by rw [← hfl]; exact ff.1, by rw [← hsig]; exact ff.2.2, ht, htk, hitf,
        hres 22 _ (Lambda.resolvedOf_method own_eM.1 own_eM.2.1 ht htk own_eM.2.2 (Jvm.Free.Fw.look_of_named hS hy toy tk ht htk)), hres 14 _ (Lambda.resolvedOf_class own_eC.1 own_eC.2.2 own_eC.2.1 ht),
        hres 18 _ (Lambda.resolvedOf_method own_eX0.1 own_eX0.2.1 ht htk own_eX0.2.2 (Jvm.Free.Fw.look_of_named hL hy toy tk ht htk)),
        hres 26 _ (Lambda.resolvedOf_method own_eX1.1 own_eX1.2.1 ht htk own_eX1.2.2 (Jvm.Free.Fw.look_of_named hV hy toy tk ht htk))⟩
      · rw [← hcode.1.1.1.1.2.2]
        exact ByteArray.ext fc.1
      · simp [Method.locks, Method.isSynchronized, ← hfl, ff.1, hasFlag, Acc.synchronized]
theorem own_fnx {Z s : State} {xi : MethodName} {cF : ClassId} {mk : MethodId} (hal : Z.vm.Alike s.vm) (h : Jvm.Free.HMW.FnX xi cF mk Z) : Jvm.Free.HMW.FnX xi cF mk s := by
  obtain ⟨kF, methK, h1, h2, h3, h4, h5⟩ := h
  obtain ⟨kF', h1', -⟩ := hal.2.2 _ _ h1
  refine ⟨kF', methK, h1', by rw [hal.method?]; exact h2, h3, h4, fun r0 r hn hr => ?_⟩
  have hn' : Z.methodNamed? xi = some r0 := by
    have q := State.methodNamed?_setVm (s := Z) hal xi
    rw [← q]; exact hn
  rw [hal.method?] at hr
  obtain ⟨q1, q2, q3⟩ := h5 r0 r hn' hr
  exact ⟨by rw [hal.assignable]; exact q1, by rw [hal.selectMethod]; exact q2, by simp only [hal.superclasses, hal.declaredIn]; exact q3⟩
theorem own_Lof {Z : State} {a0 : Array Value} (hw : own_hw a0 Z) : ∃ cF lam, own_L Z cF lam := by
  obtain ⟨cF, one, hat⟩ := Jvm.Cond.lambdaSite_spec (wd_59 hw)
  obtain ⟨m', kS, cfS, i0, p0, lk, -, -, -, -, -, -, -, -, hlk⟩ := State.lambdaAt?_spec hat
  rcases hlk with ⟨a, cl, h1, h2, -⟩ | ⟨-, -, h3⟩
  · subst h2; exact ⟨cF, a, hat⟩
  · exact absurd rfl h3
section OwnF
open Jvm.Free.Fw Jvm.Free.LongBox
variable {Z : State} {n0 kk : Nat} {code : ByteArray} {ml : Nat} {own nm : String} {ret : Option FieldType} {h : Heap} {p : Program} {l : Launch} {e : Env} {R : Room} {s : State} {m : MethodId} {args : Array Value} {below : List Frame} {meth : Method} {c : Code} {T : State} {locs : List Loc} {cells slots : Nat} {P : State → Outcome → Prop} {a0 : Array Value} {pc pc' : Nat} {L : Array Slot} {S : List Value}
set_option maxHeartbeats 4000000 in
theorem w_fn (hw : own_hw a0 Z) (X : Sd Z n0 kk code ml "java/util/TreeMap" nm ret h p l e R s m args below meth c T locs cells slots) {cF : ClassId} {lam va vo ca : Addr} {cc : Cell} {i j : Int64} (hL : own_L Z cF lam) (hC : own_C Z ca cc) (hd : Dc code pc (.invokeinterface 162 3) 5 pc') (Jo : own_J Z h vo i) (Jv : own_J Z h va j)
    (hsz : L.size = ml) (hf : 4 + 1 ≤ R.frames) (hl : (S.map fun v => v.category).sum + 14 + 54 ≤ R.locals) (hc : cells + 1 ≤ R.cells) (hs : slots + 1 ≤ R.slots)
    (K : ∀ T' h' b L', Sd Z n0 kk code ml "java/util/TreeMap" nm ret h' p l e R s m args below meth c T' (locs ++ L') (cells + 1) (slots + 1) → own_J Z h' b (i + j) → Keep h h' [] → Wp p e below P (T'.setTop (mkF m pc' L (.ref b :: S)))) :
    Wp p e below P (T.setTop (mkF m pc L (.ref va :: .ref vo :: .ref lam :: S))) := by
  obtain ⟨hd, rfl⟩ := hd
  have hZ := X.hZ
  obtain ⟨m', kS, cfS, i0, p0, lk, hm', hkS, -, -, -, -, hmade, hcan, hlk⟩ := State.lambdaAt?_spec hL
  obtain ⟨cellF, hcell, hclsF, hvmF⟩ : ∃ cellF : Cell, Z.heap[lam]? = some cellF ∧ cellF.cls = cF ∧ cellF.vm = .none := by
    rcases hlk with ⟨a, cl, h1, h2, -, h4, h5, h6, -⟩ | ⟨-, h2, -⟩
    · cases h2; exact ⟨cl, h4, h5, h6⟩
    · cases h2
  obtain ⟨kS', hkS', hnameS⟩ := className_of_methodNamed hm'
  cases hkS.symm.trans hkS'
  obtain ⟨tS, hS⟩ := own_named (y := own_sN) (wd_138 hw)
  obtain ⟨tL, hLv⟩ := own_named (y := own_lN) (wd_287 hw)
  obtain ⟨tV, hV⟩ := own_named (y := own_vN) (wd_54 hw)
  obtain ⟨k, tk, file, methk, ck, toy, hk, hkn, hfile, hpool, hmk, hck, hbytes, hml3, hlk0, hfl, hrt, htoy, htk, hitf, r22, r14, r18, r26⟩ := own_made hkS hnameS hmade hS hLv hV
  have hy : ("java/lang/Long" : String) ≠ "java/lang/invoke/MethodHandle" ∧ ("java/lang/Long" : String) ≠ "java/lang/invoke/VarHandle" := by decide
  have hFn : Jvm.Free.HMW.FnX own_aN cF ⟨cF, 1⟩ s := own_fnx hZ.alike (Jvm.Free.HMW.FnX.of_site hmade hcan rfl rfl (by decide +kernel) (wd_136 hw) hk hmk hfl)
  have facts : ∀ U : State, s.WarmedH U.vm → Jvm.Free.Fw.Base U cF methk ck 3 (some OT) ∧ U.vm.classReady cF 14 toy ∧ VirtualAt e U cF 18 own_lN toy 0 ∧ StaticAt e U cF 22 own_sN 2 ∧ StaticAt e U cF 26 own_vN 1 := fun U hW => by
    have hU : Z.Warmed39 U.vm := wtrans hZ hW
    obtain ⟨kU, hkU, eU, -, hres, -⟩ := hU.2.2.2 _ _ hk
    have R0 : ∀ (i : Nat) x, k.resolved[i]? = some (some x) → kU.resolved[i]? = some (some x) := fun i x q => by
      rcases hres i with q' | ⟨q', -⟩
      · rw [q']; exact q
      · rw [q] at q'; cases q'
    obtain ⟨tU, htU, etU⟩ := hU.alike.2.2 _ _ htk
    have hfU : kU.cf = some file := by rw [eU]; exact hfile
    have htoyU : U.vm.findClass "java/lang/Long" = some toy := by rw [hU.alike.findClass]; exact htoy
    have nm : ∀ {y : MethodName} {t : MethodId}, Z.methodNamed? y = some t → U.methodNamed? y = some t := fun {y t} q => by
      have q2 := State.methodNamed?_setVm (s := Z) hU.alike y
      exact (show (Z.setVm U.vm).methodNamed? y = some t from q2.trans q)
    have hitU : tU.isInterface = false := by rw [etU]; exact hitf
    refine ⟨⟨by rw [hU.alike.method?]; exact hmk, hck, hlk0, State.plainMethod.of_name (fun k' hk' => by cases hkU.symm.trans hk'; rw [show kU.name = k.name from by rw [eU], hkn]; decide), hml3, hrt⟩, ⟨kU, hkU, R0 _ _ r14⟩, ?_, ?_, ?_⟩
    · exact VirtualAt.of_made X.st.admits (y := own_lN) (ci := 14) (nt := 17) hkU hfU (by rw [hpool]; exact own_eX0.1) ⟨kU, hkU, R0 _ _ r18⟩ ⟨kU, hkU, R0 _ _ r14⟩ htoyU htU hitU (nm hLv) hy (mvT hU (wd_287 hw)) (mvT hU (wd_285 hw)) (mvT hU (wd_286 hw)) (sig := ⟨[], some .long⟩) (by decide +kernel) rfl
    · exact StaticAt.of_made (y := own_sN) (ci := 14) (nt := 21) hkU hfU (by rw [hpool]; exact own_eM.1) (by rw [hpool]; exact own_eM.2.2) ⟨kU, hkU, R0 _ _ r22⟩ ⟨kU, hkU, R0 _ _ r14⟩ htoyU htU (look_of_named (nm hS) hy _ _ htoyU htU) hy (mvT hU (wd_138 hw)) (mvT hU (wd_137 hw)) (mvT hU (wd_53 hw)) (sig := ⟨[.long, .long], some .long⟩) (by decide +kernel) rfl
    · exact StaticAt.of_made (y := own_vN) (ci := 14) (nt := 25) hkU hfU (by rw [hpool]; exact own_eX1.1) (by rw [hpool]; exact own_eX1.2.2) ⟨kU, hkU, R0 _ _ r26⟩ ⟨kU, hkU, R0 _ _ r14⟩ htoyU htU (look_of_named (nm hV) hy _ _ htoyU htU) hy (mvT hU (wd_54 hw)) (mvT hU (wd_52 hw)) (mvT hU (wd_53 hw)) (sig := ⟨[.long], some (.object "java/lang/Long")⟩) (by decide +kernel) rfl
  obtain ⟨cv, cf, kf, ii, fV, o1, o2, o3, o4, o5, -, o7⟩ := Jo.2
  obtain ⟨cw, cf', kf', ii', fV', p1, p2, p3, p4, p5, -, p7⟩ := Jv.2
  cases o2.symm.trans p2
  obtain ⟨cv', kv', a1, a2, a3, a4, -⟩ := Jo.1
  cases o1.symm.trans a1
  obtain ⟨cw', kw', b1, b2, b3, b4, -⟩ := Jv.1
  cases p1.symm.trans b1
  have ecv : cv.cls = toy := Option.some.inj (a2.symm.trans htoy)
  have ecw : cw.cls = toy := Option.some.inj (b2.symm.trans htoy)
  have hFV : ∀ U : State, Z.vm.Alike U.vm → FieldV U fV := fun U hal => by
    obtain ⟨k', q, -⟩ := State.fieldFound?_setVm (s := Z) (vm' := U.vm) hal o2
    exact ⟨⟨cf, k', ii, q⟩, o3⟩
  obtain ⟨c3, t3, w1, w2, w3⟩ := Cond.castable_spec (wd_61 hw)
  cases w1.symm.trans w2
  cases htoy.symm.trans w1
  have f0 := Jvm.Free.TallyW.LSumMade.f0
  have T0 := fn2Unbox2Box (l := l) (p := p) (e := e) X.hx (Rm := R) (R' := { frames := 4, cells := 1, slots := 1, locals := 54 }) (below' := below) (s' := s) (sargs' := args) (cK := cF) (ci := 14) (mu := 18) (mt := 22) (mb := 26) (cB := toy) (yU := own_lN) (yT := own_sN) (yB := own_vN) (methk := methk) (ck := ck) (len := 5) (W := (S.map fun v => v.category).sum)
    (by rw [hbytes]; exact Jvm.Free.TallyW.LSumMade.f0) (by rw [hbytes]; exact Jvm.Free.TallyW.LSumMade.f1) (by rw [hbytes]; exact Jvm.Free.TallyW.LSumMade.f4) (by rw [hbytes]; exact Jvm.Free.TallyW.LSumMade.f7) (by rw [hbytes]; exact Jvm.Free.TallyW.LSumMade.f8) (by rw [hbytes]; exact Jvm.Free.TallyW.LSumMade.f11) (by rw [hbytes]; exact Jvm.Free.TallyW.LSumMade.f14) (by rw [hbytes]; exact Jvm.Free.TallyW.LSumMade.f17) (by rw [hbytes]; exact Jvm.Free.TallyW.LSumMade.f20)
    facts (GU := LongV.G) (GT := Sum.G) (PU := LongV.P fV) (valU := fun g => some (.long g.2.2)) (PT := Sum.P) (valT := fun g => some (.long (g.1 + g.2)))
    (fun g a U U' hal hh q => q.move hal hh)
    (fun U g a hW => by
      have hU : Z.Warmed39 (U.calling g ⟨cF, 1⟩ a).vm := wtrans hZ hW
      have ht : LongV.tab.before a (U.calling g ⟨cF, 1⟩ a) = true := by
        rw [LongV.tab, Jvm.Cond.before_and, Bool.and_eq_true]; exact ⟨mvT hU (wd_287 hw), mvT hU (wd_99 hw)⟩
      exact Back.of_pure (W := 2) (S := LongV.spec) (tab := LongV.tab) (n := 1) (bytes := longValueB) (maxL := 1) (ret := some .long) (val := fun g : LongV.G => some (.long g.2.2)) (fun g => LongV.gets l fV g) rfl rfl rfl (by decide) (by decide)
        (fun g a U q => by rw [q.1]; rfl) (fun g a U U' hal hh q => q.move hal hh) (by decide) ht (mvT hU (wd_287 hw)) (mvT hU (wd_53 hw)))
    (fun U g a hW => by
      have hU : Z.Warmed39 (U.calling g ⟨cF, 1⟩ a).vm := wtrans hZ hW
      exact Back.of_pure (W := 0) (S := Sum.spec) (tab := Sum.tab) (n := 2) (bytes := Sum.sumB) (maxL := 4) (ret := some .long) (val := fun g : Sum.G => some (.long (g.1 + g.2))) (fun g => Sum.gets l g) rfl rfl rfl (by decide) (by decide)
        (fun g a U q => by rw [show a = _ from q]; rfl) (fun g a U U' _ _ q => q) (by decide) (mvT hU (wd_138 hw)) (mvT hU (wd_138 hw)) (mvT hU (wd_53 hw)))
    (PreB := fun A a => a = #[.long (i + j)] ∧ A.U.heap = h ∧ A.cells + 1 ≤ 1 ∧ A.slots + 1 ≤ 1) (PostB := fun A _ v B => ∃ L, (Fr n0 L ∧ Old Z n0 B.U.heap ∧ h.size ≤ B.U.heap.size ∧ ∃ b, v = some (.ref b) ∧ own_J Z B.U.heap b (i + j) ∧ Keep h B.U.heap []) ∧ B.locs = A.locs ++ L ∧ B.cells = A.cells + 1 ∧ B.slots = A.slots + 1)
    (fun U g a hW => by
      have hU : Z.Warmed39 (U.calling g ⟨cF, 1⟩ a).vm := wtrans hZ hW
      exact backOf (Q := fun v h' L => Fr n0 L ∧ Old Z n0 h' ∧ h.size ≤ h'.size ∧ ∃ b, v = some (.ref b) ∧ own_J Z h' b (i + j) ∧ Keep h h' []) (W := 0) (m_vof hw (x := i + j) hC X.old) hU (wd_54 hw) (wd_53 hw) (by decide) (by decide))
    (fun A a v B _ q => by obtain ⟨L, ⟨-, -, -, b, rfl, -⟩, -⟩ := q; exact ⟨_, rfl, rfl⟩)
    hf (by show (S.map fun v => v.category).sum + (3 + 11) + 54 ≤ R.locals; omega)
  obtain ⟨v, vm1, ⟨T', L1, k1, n1⟩, hW1, X', ⟨ur, U₀, U₁, L₁, c₁, n₁, -, -, ⟨Lc, ⟨g1, g2, g3, b, rfl, g4, g5⟩, e1, e2, e3⟩, hh, -, hL1, hc1, hn1⟩, st⟩ := X.st.fnAt X.hx (own := "java/util/TreeMap") (index := 162) (count := 3) (xi := own_aN) X.hown
    (by intro w q; simp only [Jvm.Free.Fn.fnW, List.mem_cons, List.not_mem_nil, or_false] at q; rcases q with rfl | rfl | rfl
        · exact mvT X.hZ (wd_134 hw)
        · exact mvT X.hZ (wd_135 hw)
        · exact mvT X.hZ (wd_136 hw)) (by decide) hFn T0 (fun _ _ => rfl)
    (b := lam) ⟨cellF, by rw [X.eh]; exact X.old.2.2 _ _ hcell, hclsF, by rw [hvmF]; rfl⟩ (g := mkF m pc L (.ref va :: .ref vo :: .ref lam :: S)) rfl (by rw [X.hml]; exact hsz) (Steps.refl _) (argsL := [.ref vo, .ref va]) (rest := S)
    (lenOf (ps := [.object "java/lang/Object", .object "java/lang/Object"]) (r := some (.object "java/lang/Object")) (by decide +kernel) rfl) rfl (by show 2 * 0 + _ ≤ _; omega) (X.hb hd)
    (fun vmx hWx => by
      have hal : Z.vm.Alike (T.setVm vmx).vm := (wtrans (U := T.setVm vmx) hZ hWx).alike
      obtain ⟨kT, hkT, -⟩ := hal.2.2 _ _ htk
      have hself : (T.setVm vmx).vm.assignable toy toy = true := by rw [hal.assignable]; exact w3
      have hx : (T.setVm vmx).heap[vo]? = some cv := by show T.heap[vo]? = _; rw [X.eh]; exact o1
      have hz : (T.setVm vmx).heap[va]? = some cw := by show T.heap[va]? = _; rw [X.eh]; exact p1
      have nost : ∀ {cl : Cell}, cl.vm.isStatics = false → ∀ q, cl.vm ≠ .statics q := fun q0 q q1 => by rw [q1] at q0; cases q0
      exact ⟨lam, vo, va, cv, cw, (vo, cv, i), (va, cw, j), (i, j), .long i, .long j, .long (i + j), rfl, fits_box hx ecv a4 hkT hself, fits_box hz ecw b4 hkT hself, hx, ecv, nost a4, hz, ecw, nost b4,
        ⟨rfl, hFV _ hal, hx, o4, o5, o7⟩, rfl, ⟨rfl, hFV _ hal, hz, p4, p5, p7⟩, rfl, fun _ _ => rfl, rfl, hc, hs, fun U₀ _ q => ⟨rfl, by rw [q]; exact X.eh, Nat.le_refl _, Nat.le_refl _⟩⟩)
  dsimp only [Pt.U, Pt.locs, Pt.cells, Pt.slots] at X' hh hL1 hc1 hn1 e1 e2 e3 g2 g3 g4 g5 st
  subst hL1 hc1 hn1 e1 e2 e3
  rw [← hh] at g2 g3 g4 g5
  refine Wp.tr st (K T' _ b _ (X.mk' ?_ rfl (X.fr.app g1) g2 g3) g4 g5)
  simpa using X'
end OwnF
theorem m_lv (hw : own_hw a0 Z) {h0 : Heap} {a : Addr} {x : Int64} (Ja : own_J Z h0 a x) :
    Does l Z n0 ⟨"java/lang/Long", "longValue", "()J"⟩ jdk_35_method_31_code 1 (some .long) [] { frames := 0, cells := 0, slots := 0, locals := 0 } #[(.ref a)] h0 (fun v h => v = some (.long x) ∧ h0 = h) := by
  refine Does.start (plainFor_of_name pn_1) ?_
  intro p e s m below meth c T X
  replace X : Sd _ _ _ _ _ "java/lang/Long" "longValue" _ _ _ _ _ _ _ _ _ _ _ _ _ _ _ _ := X
  refine Wp.cast (g' := mkF m 0 #[.val (.ref a)] []) (by first | (simp [entryFrame, mkF, argsToLocals, Value.category, maxLocals]; done) | rfl) ?_
  refine w_aloadN X k35_31_0 rfl (rfl) ?_
  refine w_getF X k35_31_1 (host := "") (Or.inl (wd_99 hw)) Via.refl Ja.2 (fun T X => ?_)
  exact w_retJ X k35_31_4 ⟨rfl, rfl⟩ (by decide) (by decide)
theorem m_am (hw : own_hw a0 Z) {h0 : Heap} {a : Addr}  :
    Does l Z n0 ⟨"java/util/AbstractMap", "<init>", "()V"⟩ jdk_71_method_1_code 1 none [] { frames := 1, cells := 0, slots := 0, locals := 12 } #[(.ref a)] h0 (fun v h => v = none ∧ h0 = h) := by
  refine Does.start (plainFor_of_name pn_4) ?_
  intro p e s m below meth c T X
  replace X : Sd _ _ _ _ _ "java/util/AbstractMap" "<init>" _ _ _ _ _ _ _ _ _ _ _ _ _ _ _ _ := X
  refine Wp.cast (g' := mkF m 0 #[.val (.ref a)] []) (by first | (simp [entryFrame, mkF, argsToLocals, Value.category, maxLocals]; done) | rfl) ?_
  refine w_aloadN X k71_1_0 rfl (rfl) ?_
  refine w_initO X k71_1_1 (wd_35 hw) (wd_21 hw) (wd_22 hw) rfl (by decide) (leR rfl) (fun T X => ?_)
  exact w_retV X k71_1_4 ⟨rfl, rfl⟩ (by decide) (by decide)
theorem m_ac (hw : own_hw a0 Z) {h0 : Heap} {a : Addr}  :
    Does l Z n0 ⟨"java/util/AbstractCollection", "<init>", "()V"⟩ jdk_22_method_1_code 1 none [] { frames := 1, cells := 0, slots := 0, locals := 12 } #[(.ref a)] h0 (fun v h => v = none ∧ h0 = h) := by
  refine Does.start (plainFor_of_name pn_5) ?_
  intro p e s m below meth c T X
  replace X : Sd _ _ _ _ _ "java/util/AbstractCollection" "<init>" _ _ _ _ _ _ _ _ _ _ _ _ _ _ _ _ := X
  refine Wp.cast (g' := mkF m 0 #[.val (.ref a)] []) (by first | (simp [entryFrame, mkF, argsToLocals, Value.category, maxLocals]; done) | rfl) ?_
  refine w_aloadN X k22_1_0 rfl (rfl) ?_
  refine w_initO X k22_1_1 (wd_201 hw) (wd_21 hw) (wd_22 hw) rfl (by decide) (leR rfl) (fun T X => ?_)
  exact w_retV X k22_1_4 ⟨rfl, rfl⟩ (by decide) (by decide)
theorem m_as (hw : own_hw a0 Z) {h0 : Heap} {a : Addr}  :
    Does l Z n0 ⟨"java/util/AbstractSet", "<init>", "()V"⟩ jdk_91_method_1_code 1 none [] { frames := 2, cells := 0, slots := 0, locals := 24 } #[(.ref a)] h0 (fun v h => v = none ∧ h0 = h) := by
  refine Does.start (plainFor_of_name pn_6) ?_
  intro p e s m below meth c T X
  replace X : Sd _ _ _ _ _ "java/util/AbstractSet" "<init>" _ _ _ _ _ _ _ _ _ _ _ _ _ _ _ _ := X
  refine Wp.cast (g' := mkF m 0 #[.val (.ref a)] []) (by first | (simp [entryFrame, mkF, argsToLocals, Value.category, maxLocals]; done) | rfl) ?_
  refine w_aloadN X k91_1_0 rfl (rfl) ?_
  refine w_callI X k91_1_1 rfl (wd_195 hw) (wd_196 hw) (wd_199 hw) (wd_200 hw) (by decide) (argsL := []) (S := []) (m_ac hw) pd_3 rfl rfl rfl (by decide) (leR rfl) (by decide) (by decide) (fun T h1 v1 L1 X q1 => ?_)
  obtain ⟨rfl, rfl⟩ := q1
  show Wp _ _ _ _ (T.setTop (mkF _ _ _ []))
  exact w_retV X k91_1_4 ⟨rfl, rfl⟩ (by decide) (by decide)
theorem m_tmi (hw : own_hw a0 Z) {h0 : Heap} {tm : Addr} (M0 : own_M Z n0 h0 tm .null .null 0 0) :
    Does l Z n0 ⟨"java/util/TreeMap", "<init>", "()V"⟩ jdk_2729_method_1_code 1 none [] { frames := 2, cells := 0, slots := 0, locals := 24 } #[(.ref tm)] h0 (fun v h => v = none ∧ own_M Z n0 h tm .null .null 0 0 ∧ Keep h0 h [tm]) := by
  refine Does.start (plainFor_of_name pn_2) ?_
  intro p e s m below meth c T X
  replace X : Sd _ _ _ _ _ "java/util/TreeMap" "<init>" _ _ _ _ _ _ _ _ _ _ _ _ _ _ _ _ := X
  refine Wp.cast (g' := mkF m 0 #[.val (.ref tm)] []) (by first | (simp [entryFrame, mkF, argsToLocals, Value.category, maxLocals]; done) | rfl) ?_
  refine w_aloadN X k2729_1_0 rfl (rfl) ?_
  refine w_callI X k2729_1_1 rfl (wd_29 hw) (wd_30 hw) (wd_33 hw) (wd_34 hw) (by decide) (argsL := []) (S := []) (m_am hw) pd_3 rfl rfl rfl (by decide) (leR rfl) (by decide) (by decide) (fun T h1 v1 L1 X q1 => ?_)
  obtain ⟨rfl, rfl⟩ := q1
  show Wp _ _ _ _ (T.setTop (mkF _ _ _ []))
  refine w_aloadN X k2729_1_4 rfl (rfl) ?_
  refine w_iconst X (0 : Int32) k2729_1_5 rfl ?_
  refine w_putF X k2729_1_6 (host := "") (Or.inl (wd_36 hw)) Via.refl M0.2.2.2.1 M0.2.1 (Or.inl (wd_37 hw)) (wd_24 hw) (ty := .int) (by decide) rfl rfl M0.1 (fun T h2 X W2 => ?_)
  have f1 := M0.2.2.2.1.same W2
  have K2 : Keep h0 h2 [tm] := (Keep.refl h0 [tm]).wr W2 (Or.inl (List.mem_of_getElem? (i := 0) rfl))
  refine w_aloadN X k2729_1_9 rfl (rfl) ?_
  refine w_iconst X (0 : Int32) k2729_1_10 rfl ?_
  have f3 := (M0.2.1.wr W2)
  have f4 := (M0.2.2.2.2.1.other W2 (Or.inr (slot_ne (Or.inl (wd_39 hw)) (Or.inl (wd_37 hw)) (by decide) (t := .int) (t' := .int) (by decide) (by decide))))
  refine w_putF X k2729_1_11 (host := "") (Or.inl (wd_38 hw)) Via.refl f4 f3 (Or.inl (wd_39 hw)) (wd_24 hw) (ty := .int) (by decide) rfl rfl M0.1 (fun T h3 X W3 => ?_)
  have f5 := f4.same W3
  have K6 : Keep h0 h3 [tm] := K2.wr W3 (Or.inl (List.mem_of_getElem? (i := 0) rfl))
  refine w_aloadN X k2729_1_14 rfl (rfl) ?_
  refine w_aconstNull X k2729_1_15 ?_
  have f7 := (f3.wr W3)
  have f8 := ((M0.2.2.2.2.2.1.other W2 (Or.inr (slot_ne (Or.inr (wd_41 hw)) (Or.inl (wd_37 hw)) (by decide) (t := (.object "java/util/Comparator")) (t' := .int) (by decide) (by decide)))).other W3 (Or.inr (slot_ne (Or.inr (wd_41 hw)) (Or.inl (wd_39 hw)) (by decide) (t := (.object "java/util/Comparator")) (t' := .int) (by decide) (by decide))))
  refine w_putF X k2729_1_16 (host := "") (Or.inl (wd_40 hw)) Via.refl f8 f7 (Or.inr ⟨(wd_41 hw), rfl, rfl⟩) (wd_24 hw) (ty := (.object "java/util/Comparator")) (by decide) rfl rfl M0.1 (fun T h4 X W4 => ?_)
  have f9 := f8.same W4
  have K10 : Keep h0 h4 [tm] := K6.wr W4 (Or.inl (List.mem_of_getElem? (i := 0) rfl))
  have f11 := (f7.wr W4)
  have f12 := (((M0.2.2.1.other W2 (Or.inr (slot_ne (Or.inl (wd_72 hw)) (Or.inl (wd_37 hw)) (by decide) (t := (.object "java/util/TreeMap$Entry")) (t' := .int) (by decide) (by decide)))).other W3 (Or.inr (slot_ne (Or.inl (wd_72 hw)) (Or.inl (wd_39 hw)) (by decide) (t := (.object "java/util/TreeMap$Entry")) (t' := .int) (by decide) (by decide)))).other W4 (Or.inr (slot_ne (Or.inl (wd_72 hw)) (Or.inr (wd_41 hw)) (by decide) (t := (.object "java/util/TreeMap$Entry")) (t' := (.object "java/util/Comparator")) (by decide) (by decide))))
  have f13 := ((f1.other W3 (Or.inr (slot_ne (Or.inl (wd_37 hw)) (Or.inl (wd_39 hw)) (by decide) (t := .int) (t' := .int) (by decide) (by decide)))).other W4 (Or.inr (slot_ne (Or.inl (wd_37 hw)) (Or.inr (wd_41 hw)) (by decide) (t := .int) (t' := (.object "java/util/Comparator")) (by decide) (by decide))))
  have f14 := (f5.other W4 (Or.inr (slot_ne (Or.inl (wd_39 hw)) (Or.inr (wd_41 hw)) (by decide) (t := .int) (t' := (.object "java/util/Comparator")) (by decide) (by decide))))
  have f15 := (((M0.2.2.2.2.2.2.other W2 (Or.inr (slot_ne (Or.inl (wd_179 hw)) (Or.inl (wd_37 hw)) (by decide) (t := (.object "java/util/TreeMap$EntrySet")) (t' := .int) (by decide) (by decide)))).other W3 (Or.inr (slot_ne (Or.inl (wd_179 hw)) (Or.inl (wd_39 hw)) (by decide) (t := (.object "java/util/TreeMap$EntrySet")) (t' := .int) (by decide) (by decide)))).other W4 (Or.inr (slot_ne (Or.inl (wd_179 hw)) (Or.inr (wd_41 hw)) (by decide) (t := (.object "java/util/TreeMap$EntrySet")) (t' := (.object "java/util/Comparator")) (by decide) (by decide))))
  exact w_retV X k2729_1_19 ⟨rfl, ⟨M0.1, f11, f12, f13, f14, f9, f15⟩, K10⟩ (by decide) (by decide)
theorem m_rti (hw : own_hw a0 Z) {h0 : Heap} {rt : Addr} (grt : n0 ≤ rt) (Ert : Exa Z h0 rt "com/example/bounded_lock/boundedlock/cli/RoundTimes") (Fc : Fld Z h0 rt "com/example/bounded_lock/boundedlock/cli/RoundTimes" "counts" "Ljava/util/TreeMap;" .null) (Fr : Fld Z h0 rt "com/example/bounded_lock/boundedlock/cli/RoundTimes" "rounds" "J" (.long 0)) :
    Does l Z n0 ⟨"com/example/bounded_lock/boundedlock/cli/RoundTimes", "<init>", "()V"⟩ prog_2_method_1_code 1 none [] { frames := 3, cells := 1, slots := 9, locals := 38 } #[(.ref rt)] h0 (fun v h => v = none ∧ own_RT Z n0 h rt 0 .null [] ∧ Keep h0 h [rt]) := by
  refine Does.start (plainFor_of_name pn_7) ?_
  intro p e s m below meth c T X
  replace X : Sd _ _ _ _ _ "com/example/bounded_lock/boundedlock/cli/RoundTimes" "<init>" _ _ _ _ _ _ _ _ _ _ _ _ _ _ _ _ := X
  refine Wp.cast (g' := mkF m 0 #[.val (.ref rt)] []) (by first | (simp [entryFrame, mkF, argsToLocals, Value.category, maxLocals]; done) | rfl) ?_
  refine w_aloadN X q2_1_0 rfl (rfl) ?_
  refine w_initO X q2_1_1 (wd_20 hw) (wd_21 hw) (wd_22 hw) rfl (by decide) (leR rfl) (fun T X => ?_)
  refine w_aloadN X q2_1_4 rfl (rfl) ?_
  refine w_new X q2_1_5 (wd_23 hw) (wd_24 hw) (wd_25 hw) (by decide) (by decide) (fun T h1 b1 g1 gn1 X E1 A1 D1 => ?_)
  have sz_b1 : h0.size ≤ b1 := Nat.le_trans (Keep.refl h0 [rt]).1 (Nat.le_of_eq g1.symm)
  have K1 : Keep h0 h1 [rt] := (Keep.refl h0 [rt]).ext E1
  refine w_dup X q2_1_8 rfl ?_
  have mq2 : own_M Z n0 h1 b1 .null .null (0 : Int32) (0 : Int32) := ⟨gn1, A1, (show Fld Z h1 b1 "java/util/TreeMap" "root" "Ljava/util/TreeMap$Entry;" .null from D1 (Or.inl (wd_72 hw)) (ty := (.object "java/util/TreeMap$Entry")) (by decide)), (show Fld Z h1 b1 "java/util/TreeMap" "size" "I" (.int (0 : Int32)) from D1 (Or.inl (wd_37 hw)) (ty := .int) (by decide)), (show Fld Z h1 b1 "java/util/TreeMap" "modCount" "I" (.int (0 : Int32)) from D1 (Or.inl (wd_39 hw)) (ty := .int) (by decide)), (show Fld Z h1 b1 "java/util/TreeMap" "comparator" "Ljava/util/Comparator;" .null from D1 (Or.inr (wd_41 hw)) (ty := (.object "java/util/Comparator")) (by decide)), (show Fld Z h1 b1 "java/util/TreeMap" "entrySet" "Ljava/util/TreeMap$EntrySet;" .null from D1 (Or.inl (wd_179 hw)) (ty := (.object "java/util/TreeMap$EntrySet")) (by decide))⟩
  refine w_callI X q2_1_9 rfl (wd_26 hw) (wd_27 hw) (wd_25 hw) (wd_28 hw) (by decide) (argsL := []) (S := [(.ref b1), (.ref rt)]) (m_tmi hw mq2) pd_3 rfl rfl rfl (by decide) (leR rfl) (by decide) (by decide) (fun T h2 v2 L2 X q2 => ?_)
  obtain ⟨rfl, M2, Kc2⟩ := q2
  have K3 : Keep h0 h2 [rt] := K1.trans Kc2 (fun x hx => by cases List.mem_singleton.mp hx; exact (Or.inr sz_b1))
  show Wp _ _ _ _ (T.setTop (mkF _ _ _ [(.ref b1), (.ref rt)]))
  have f4 := ((Ert.ext E1).keep Kc2)
  have f5 := ((Fc.ext E1).keep Kc2 (ni1 (Exa.ne f4 M2.2.1 (by decide))))
  refine w_putF X q2_1_12 (host := "") (Or.inl (wd_42 hw)) Via.refl f5 f4 (Or.inr ⟨(wd_43 hw), rfl, rfl⟩) (wd_15 hw) (ty := (.object "java/util/TreeMap")) (by decide) rfl rfl grt (fun T h3 X W3 => ?_)
  have f6 := f5.same W3
  have K7 : Keep h0 h3 [rt] := K3.wr W3 (Or.inl (List.mem_of_getElem? (i := 0) rfl))
  have f8 := (M2.2.1.wr W3)
  have f9 := (f4.wr W3)
  have f10 := (M2.2.2.1.other W3 (Or.inl (Exa.ne f8 f9 (by decide))))
  have f11 := (M2.2.2.2.1.other W3 (Or.inl (Exa.ne f8 f9 (by decide))))
  have f12 := (M2.2.2.2.2.1.other W3 (Or.inl (Exa.ne f8 f9 (by decide))))
  have f13 := (M2.2.2.2.2.2.1.other W3 (Or.inl (Exa.ne f8 f9 (by decide))))
  have f14 := (M2.2.2.2.2.2.2.other W3 (Or.inl (Exa.ne f8 f9 (by decide))))
  have f15 := (((Fr.ext E1).keep Kc2 (ni1 (Exa.ne f9 f8 (by decide)))).other W3 (Or.inr (slot_ne (Or.inl (wd_121 hw)) (Or.inr (wd_43 hw)) (by decide) (t := .long) (t' := (.object "java/util/TreeMap")) (by decide) (by decide))))
  exact w_retV X q2_1_15 ⟨rfl, ⟨b1, grt, f9, f6, f15, ⟨_, _, _, ⟨M2.1, f8, f10, f11, f12, f13, f14⟩, rfl⟩, Or.inl rfl⟩, K7⟩ (by decide) (by decide)
theorem m_ein (hw : own_hw a0 Z) {h0 : Heap} {ex ka va : Addr} (N0 : own_N Z n0 h0 ex .null .null .null .null .null (0 : Int32)) :
    Does l Z n0 ⟨"java/util/TreeMap$Entry", "<init>", "(Ljava/lang/Object;Ljava/lang/Object;Ljava/util/TreeMap$Entry;)V"⟩ jdk_2736_method_1_code 4 none [] { frames := 1, cells := 0, slots := 0, locals := 12 } #[(.ref ex), (.ref ka), (.ref va), .null] h0 (fun v h => v = none ∧ own_N Z n0 h ex (.ref ka) (.ref va) .null .null .null (1 : Int32) ∧ Keep h0 h [ex]) := by
  refine Does.start (plainFor_of_name pn_8) ?_
  intro p e s m below meth c T X
  replace X : Sd _ _ _ _ _ "java/util/TreeMap$Entry" "<init>" _ _ _ _ _ _ _ _ _ _ _ _ _ _ _ _ := X
  refine Wp.cast (g' := mkF m 0 #[.val (.ref ex), .val (.ref ka), .val (.ref va), .val .null] []) (by first | (simp [entryFrame, mkF, argsToLocals, Value.category, maxLocals]; done) | rfl) ?_
  refine w_aloadN X k2736_1_0 rfl (rfl) ?_
  refine w_initO X k2736_1_1 (wd_111 hw) (wd_21 hw) (wd_22 hw) rfl (by decide) (leR rfl) (fun T X => ?_)
  refine w_aloadN X k2736_1_4 rfl (rfl) ?_
  refine w_iconst X (1 : Int32) k2736_1_5 rfl ?_
  refine w_putFN X k2736_1_6 (wd_112 hw) Via.refl N0.2.2.2.2.2.2.2 N0.2.1 (Or.inl (wd_113 hw)) (wd_105 hw) (ty := .boolean) (by decide) (.int (1 : Int32)) rfl (by decide) N0.1 (fun T h1 X W1 => ?_)
  have f1 := N0.2.2.2.2.2.2.2.same W1
  have K2 : Keep h0 h1 [ex] := (Keep.refl h0 [ex]).wr W1 (Or.inl (List.mem_of_getElem? (i := 0) rfl))
  refine w_aloadN X k2736_1_9 rfl (rfl) ?_
  refine w_aloadN X k2736_1_10 rfl (rfl) ?_
  have f3 := (N0.2.1.wr W1)
  have f4 := (N0.2.2.1.other W1 (Or.inr (slot_ne (Or.inl (wd_115 hw)) (Or.inl (wd_113 hw)) (by decide) (t := (.object "java/lang/Object")) (t' := .boolean) (by decide) (by decide))))
  refine w_putF X k2736_1_11 (host := "") (Or.inl (wd_114 hw)) Via.refl f4 f3 (Or.inl (wd_115 hw)) (wd_105 hw) (ty := (.object "java/lang/Object")) (by decide) rfl rfl N0.1 (fun T h2 X W2 => ?_)
  have f5 := f4.same W2
  have K6 : Keep h0 h2 [ex] := K2.wr W2 (Or.inl (List.mem_of_getElem? (i := 0) rfl))
  refine w_aloadN X k2736_1_14 rfl (rfl) ?_
  refine w_aloadN X k2736_1_15 rfl (rfl) ?_
  have f7 := (f3.wr W2)
  have f8 := ((N0.2.2.2.1.other W1 (Or.inr (slot_ne (Or.inl (wd_117 hw)) (Or.inl (wd_113 hw)) (by decide) (t := (.object "java/lang/Object")) (t' := .boolean) (by decide) (by decide)))).other W2 (Or.inr (slot_ne (Or.inl (wd_117 hw)) (Or.inl (wd_115 hw)) (by decide) (t := (.object "java/lang/Object")) (t' := (.object "java/lang/Object")) (by decide) (by decide))))
  refine w_putF X k2736_1_16 (host := "") (Or.inl (wd_116 hw)) Via.refl f8 f7 (Or.inl (wd_117 hw)) (wd_105 hw) (ty := (.object "java/lang/Object")) (by decide) rfl rfl N0.1 (fun T h3 X W3 => ?_)
  have f9 := f8.same W3
  have K10 : Keep h0 h3 [ex] := K6.wr W3 (Or.inl (List.mem_of_getElem? (i := 0) rfl))
  refine w_aloadN X k2736_1_19 rfl (rfl) ?_
  refine w_aloadN X k2736_1_20 rfl (rfl) ?_
  have f11 := (f7.wr W3)
  have f12 := (((N0.2.2.2.2.2.2.1.other W1 (Or.inr (slot_ne (Or.inl (wd_119 hw)) (Or.inl (wd_113 hw)) (by decide) (t := (.object "java/util/TreeMap$Entry")) (t' := .boolean) (by decide) (by decide)))).other W2 (Or.inr (slot_ne (Or.inl (wd_119 hw)) (Or.inl (wd_115 hw)) (by decide) (t := (.object "java/util/TreeMap$Entry")) (t' := (.object "java/lang/Object")) (by decide) (by decide)))).other W3 (Or.inr (slot_ne (Or.inl (wd_119 hw)) (Or.inl (wd_117 hw)) (by decide) (t := (.object "java/util/TreeMap$Entry")) (t' := (.object "java/lang/Object")) (by decide) (by decide))))
  refine w_putF X k2736_1_21 (host := "") (Or.inl (wd_118 hw)) Via.refl f12 f11 (Or.inl (wd_119 hw)) (wd_105 hw) (ty := (.object "java/util/TreeMap$Entry")) (by decide) rfl rfl N0.1 (fun T h4 X W4 => ?_)
  have f13 := f12.same W4
  have K14 : Keep h0 h4 [ex] := K10.wr W4 (Or.inl (List.mem_of_getElem? (i := 0) rfl))
  have f15 := (f11.wr W4)
  have f16 := ((f5.other W3 (Or.inr (slot_ne (Or.inl (wd_115 hw)) (Or.inl (wd_117 hw)) (by decide) (t := (.object "java/lang/Object")) (t' := (.object "java/lang/Object")) (by decide) (by decide)))).other W4 (Or.inr (slot_ne (Or.inl (wd_115 hw)) (Or.inl (wd_119 hw)) (by decide) (t := (.object "java/lang/Object")) (t' := (.object "java/util/TreeMap$Entry")) (by decide) (by decide))))
  have f17 := (f9.other W4 (Or.inr (slot_ne (Or.inl (wd_117 hw)) (Or.inl (wd_119 hw)) (by decide) (t := (.object "java/lang/Object")) (t' := (.object "java/util/TreeMap$Entry")) (by decide) (by decide))))
  have f18 := ((((N0.2.2.2.2.1.other W1 (Or.inr (slot_ne (Or.inl (wd_220 hw)) (Or.inl (wd_113 hw)) (by decide) (t := (.object "java/util/TreeMap$Entry")) (t' := .boolean) (by decide) (by decide)))).other W2 (Or.inr (slot_ne (Or.inl (wd_220 hw)) (Or.inl (wd_115 hw)) (by decide) (t := (.object "java/util/TreeMap$Entry")) (t' := (.object "java/lang/Object")) (by decide) (by decide)))).other W3 (Or.inr (slot_ne (Or.inl (wd_220 hw)) (Or.inl (wd_117 hw)) (by decide) (t := (.object "java/util/TreeMap$Entry")) (t' := (.object "java/lang/Object")) (by decide) (by decide)))).other W4 (Or.inr (slot_ne (Or.inl (wd_220 hw)) (Or.inl (wd_119 hw)) (by decide) (t := (.object "java/util/TreeMap$Entry")) (t' := (.object "java/util/TreeMap$Entry")) (by decide) (by decide))))
  have f19 := ((((N0.2.2.2.2.2.1.other W1 (Or.inr (slot_ne (Or.inl (wd_151 hw)) (Or.inl (wd_113 hw)) (by decide) (t := (.object "java/util/TreeMap$Entry")) (t' := .boolean) (by decide) (by decide)))).other W2 (Or.inr (slot_ne (Or.inl (wd_151 hw)) (Or.inl (wd_115 hw)) (by decide) (t := (.object "java/util/TreeMap$Entry")) (t' := (.object "java/lang/Object")) (by decide) (by decide)))).other W3 (Or.inr (slot_ne (Or.inl (wd_151 hw)) (Or.inl (wd_117 hw)) (by decide) (t := (.object "java/util/TreeMap$Entry")) (t' := (.object "java/lang/Object")) (by decide) (by decide)))).other W4 (Or.inr (slot_ne (Or.inl (wd_151 hw)) (Or.inl (wd_119 hw)) (by decide) (t := (.object "java/util/TreeMap$Entry")) (t' := (.object "java/util/TreeMap$Entry")) (by decide) (by decide))))
  have f20 := (((f1.other W2 (Or.inr (slot_ne (Or.inl (wd_113 hw)) (Or.inl (wd_115 hw)) (by decide) (t := .boolean) (t' := (.object "java/lang/Object")) (by decide) (by decide)))).other W3 (Or.inr (slot_ne (Or.inl (wd_113 hw)) (Or.inl (wd_117 hw)) (by decide) (t := .boolean) (t' := (.object "java/lang/Object")) (by decide) (by decide)))).other W4 (Or.inr (slot_ne (Or.inl (wd_113 hw)) (Or.inl (wd_119 hw)) (by decide) (t := .boolean) (t' := (.object "java/util/TreeMap$Entry")) (by decide) (by decide))))
  exact w_retV X k2736_1_24 ⟨rfl, ⟨N0.1, f15, f16, f17, f18, f19, f13, f20⟩, K14⟩ (by decide) (by decide)
theorem m_eir (hw : own_hw a0 Z) {h0 : Heap} {ex ka va pe : Addr} (N0 : own_N Z n0 h0 ex .null .null .null .null .null (0 : Int32)) :
    Does l Z n0 ⟨"java/util/TreeMap$Entry", "<init>", "(Ljava/lang/Object;Ljava/lang/Object;Ljava/util/TreeMap$Entry;)V"⟩ jdk_2736_method_1_code 4 none [] { frames := 1, cells := 0, slots := 0, locals := 12 } #[(.ref ex), (.ref ka), (.ref va), (.ref pe)] h0 (fun v h => v = none ∧ own_N Z n0 h ex (.ref ka) (.ref va) .null .null (.ref pe) (1 : Int32) ∧ Keep h0 h [ex]) := by
  refine Does.start (plainFor_of_name pn_8) ?_
  intro p e s m below meth c T X
  replace X : Sd _ _ _ _ _ "java/util/TreeMap$Entry" "<init>" _ _ _ _ _ _ _ _ _ _ _ _ _ _ _ _ := X
  refine Wp.cast (g' := mkF m 0 #[.val (.ref ex), .val (.ref ka), .val (.ref va), .val (.ref pe)] []) (by first | (simp [entryFrame, mkF, argsToLocals, Value.category, maxLocals]; done) | rfl) ?_
  refine w_aloadN X k2736_1_0 rfl (rfl) ?_
  refine w_initO X k2736_1_1 (wd_111 hw) (wd_21 hw) (wd_22 hw) rfl (by decide) (leR rfl) (fun T X => ?_)
  refine w_aloadN X k2736_1_4 rfl (rfl) ?_
  refine w_iconst X (1 : Int32) k2736_1_5 rfl ?_
  refine w_putFN X k2736_1_6 (wd_112 hw) Via.refl N0.2.2.2.2.2.2.2 N0.2.1 (Or.inl (wd_113 hw)) (wd_105 hw) (ty := .boolean) (by decide) (.int (1 : Int32)) rfl (by decide) N0.1 (fun T h1 X W1 => ?_)
  have f1 := N0.2.2.2.2.2.2.2.same W1
  have K2 : Keep h0 h1 [ex] := (Keep.refl h0 [ex]).wr W1 (Or.inl (List.mem_of_getElem? (i := 0) rfl))
  refine w_aloadN X k2736_1_9 rfl (rfl) ?_
  refine w_aloadN X k2736_1_10 rfl (rfl) ?_
  have f3 := (N0.2.1.wr W1)
  have f4 := (N0.2.2.1.other W1 (Or.inr (slot_ne (Or.inl (wd_115 hw)) (Or.inl (wd_113 hw)) (by decide) (t := (.object "java/lang/Object")) (t' := .boolean) (by decide) (by decide))))
  refine w_putF X k2736_1_11 (host := "") (Or.inl (wd_114 hw)) Via.refl f4 f3 (Or.inl (wd_115 hw)) (wd_105 hw) (ty := (.object "java/lang/Object")) (by decide) rfl rfl N0.1 (fun T h2 X W2 => ?_)
  have f5 := f4.same W2
  have K6 : Keep h0 h2 [ex] := K2.wr W2 (Or.inl (List.mem_of_getElem? (i := 0) rfl))
  refine w_aloadN X k2736_1_14 rfl (rfl) ?_
  refine w_aloadN X k2736_1_15 rfl (rfl) ?_
  have f7 := (f3.wr W2)
  have f8 := ((N0.2.2.2.1.other W1 (Or.inr (slot_ne (Or.inl (wd_117 hw)) (Or.inl (wd_113 hw)) (by decide) (t := (.object "java/lang/Object")) (t' := .boolean) (by decide) (by decide)))).other W2 (Or.inr (slot_ne (Or.inl (wd_117 hw)) (Or.inl (wd_115 hw)) (by decide) (t := (.object "java/lang/Object")) (t' := (.object "java/lang/Object")) (by decide) (by decide))))
  refine w_putF X k2736_1_16 (host := "") (Or.inl (wd_116 hw)) Via.refl f8 f7 (Or.inl (wd_117 hw)) (wd_105 hw) (ty := (.object "java/lang/Object")) (by decide) rfl rfl N0.1 (fun T h3 X W3 => ?_)
  have f9 := f8.same W3
  have K10 : Keep h0 h3 [ex] := K6.wr W3 (Or.inl (List.mem_of_getElem? (i := 0) rfl))
  refine w_aloadN X k2736_1_19 rfl (rfl) ?_
  refine w_aloadN X k2736_1_20 rfl (rfl) ?_
  have f11 := (f7.wr W3)
  have f12 := (((N0.2.2.2.2.2.2.1.other W1 (Or.inr (slot_ne (Or.inl (wd_119 hw)) (Or.inl (wd_113 hw)) (by decide) (t := (.object "java/util/TreeMap$Entry")) (t' := .boolean) (by decide) (by decide)))).other W2 (Or.inr (slot_ne (Or.inl (wd_119 hw)) (Or.inl (wd_115 hw)) (by decide) (t := (.object "java/util/TreeMap$Entry")) (t' := (.object "java/lang/Object")) (by decide) (by decide)))).other W3 (Or.inr (slot_ne (Or.inl (wd_119 hw)) (Or.inl (wd_117 hw)) (by decide) (t := (.object "java/util/TreeMap$Entry")) (t' := (.object "java/lang/Object")) (by decide) (by decide))))
  refine w_putF X k2736_1_21 (host := "") (Or.inl (wd_118 hw)) Via.refl f12 f11 (Or.inl (wd_119 hw)) (wd_105 hw) (ty := (.object "java/util/TreeMap$Entry")) (by decide) rfl rfl N0.1 (fun T h4 X W4 => ?_)
  have f13 := f12.same W4
  have K14 : Keep h0 h4 [ex] := K10.wr W4 (Or.inl (List.mem_of_getElem? (i := 0) rfl))
  have f15 := (f11.wr W4)
  have f16 := ((f5.other W3 (Or.inr (slot_ne (Or.inl (wd_115 hw)) (Or.inl (wd_117 hw)) (by decide) (t := (.object "java/lang/Object")) (t' := (.object "java/lang/Object")) (by decide) (by decide)))).other W4 (Or.inr (slot_ne (Or.inl (wd_115 hw)) (Or.inl (wd_119 hw)) (by decide) (t := (.object "java/lang/Object")) (t' := (.object "java/util/TreeMap$Entry")) (by decide) (by decide))))
  have f17 := (f9.other W4 (Or.inr (slot_ne (Or.inl (wd_117 hw)) (Or.inl (wd_119 hw)) (by decide) (t := (.object "java/lang/Object")) (t' := (.object "java/util/TreeMap$Entry")) (by decide) (by decide))))
  have f18 := ((((N0.2.2.2.2.1.other W1 (Or.inr (slot_ne (Or.inl (wd_220 hw)) (Or.inl (wd_113 hw)) (by decide) (t := (.object "java/util/TreeMap$Entry")) (t' := .boolean) (by decide) (by decide)))).other W2 (Or.inr (slot_ne (Or.inl (wd_220 hw)) (Or.inl (wd_115 hw)) (by decide) (t := (.object "java/util/TreeMap$Entry")) (t' := (.object "java/lang/Object")) (by decide) (by decide)))).other W3 (Or.inr (slot_ne (Or.inl (wd_220 hw)) (Or.inl (wd_117 hw)) (by decide) (t := (.object "java/util/TreeMap$Entry")) (t' := (.object "java/lang/Object")) (by decide) (by decide)))).other W4 (Or.inr (slot_ne (Or.inl (wd_220 hw)) (Or.inl (wd_119 hw)) (by decide) (t := (.object "java/util/TreeMap$Entry")) (t' := (.object "java/util/TreeMap$Entry")) (by decide) (by decide))))
  have f19 := ((((N0.2.2.2.2.2.1.other W1 (Or.inr (slot_ne (Or.inl (wd_151 hw)) (Or.inl (wd_113 hw)) (by decide) (t := (.object "java/util/TreeMap$Entry")) (t' := .boolean) (by decide) (by decide)))).other W2 (Or.inr (slot_ne (Or.inl (wd_151 hw)) (Or.inl (wd_115 hw)) (by decide) (t := (.object "java/util/TreeMap$Entry")) (t' := (.object "java/lang/Object")) (by decide) (by decide)))).other W3 (Or.inr (slot_ne (Or.inl (wd_151 hw)) (Or.inl (wd_117 hw)) (by decide) (t := (.object "java/util/TreeMap$Entry")) (t' := (.object "java/lang/Object")) (by decide) (by decide)))).other W4 (Or.inr (slot_ne (Or.inl (wd_151 hw)) (Or.inl (wd_119 hw)) (by decide) (t := (.object "java/util/TreeMap$Entry")) (t' := (.object "java/util/TreeMap$Entry")) (by decide) (by decide))))
  have f20 := (((f1.other W2 (Or.inr (slot_ne (Or.inl (wd_113 hw)) (Or.inl (wd_115 hw)) (by decide) (t := .boolean) (t' := (.object "java/lang/Object")) (by decide) (by decide)))).other W3 (Or.inr (slot_ne (Or.inl (wd_113 hw)) (Or.inl (wd_117 hw)) (by decide) (t := .boolean) (t' := (.object "java/lang/Object")) (by decide) (by decide)))).other W4 (Or.inr (slot_ne (Or.inl (wd_113 hw)) (Or.inl (wd_119 hw)) (by decide) (t := .boolean) (t' := (.object "java/util/TreeMap$Entry")) (by decide) (by decide))))
  exact w_retV X k2736_1_24 ⟨rfl, ⟨N0.1, f15, f16, f17, f18, f19, f13, f20⟩, K14⟩ (by decide) (by decide)
theorem m_parentOf (hw : own_hw a0 Z) {h0 : Heap} {ex : Addr} {pv : Value} (hpv : pv.isRef = true) (F : Fld Z h0 ex "java/util/TreeMap$Entry" "parent" "Ljava/util/TreeMap$Entry;" pv) :
    Does l Z n0 ⟨"java/util/TreeMap", "parentOf", "(Ljava/util/TreeMap$Entry;)Ljava/util/TreeMap$Entry;"⟩ jdk_2729_method_77_code 1 (some (.object "java/util/TreeMap$Entry")) [] { frames := 0, cells := 0, slots := 0, locals := 0 } #[(.ref ex)] h0 (fun v h => v = some pv ∧ h0 = h) := by
  refine Does.start (plainFor_of_name pn_2) ?_
  intro p e s m below meth c T X
  replace X : Sd _ _ _ _ _ "java/util/TreeMap" "parentOf" _ _ _ _ _ _ _ _ _ _ _ _ _ _ _ _ := X
  refine Wp.cast (g' := mkF m 0 #[.val (.ref ex)] []) (by first | (simp [entryFrame, mkF, argsToLocals, Value.category, maxLocals]; done) | rfl) ?_
  refine w_aloadN X k2729_77_0 rfl (rfl) ?_
  refine w_ifnonnullT X k2729_77_1 ?_
  refine w_aloadN X k2729_77_8 rfl (rfl) ?_
  refine w_getF X k2729_77_9 (host := "") (Or.inl (wd_163 hw)) Via.refl F (fun T X => ?_)
  exact w_retR X rfl (hpv) rfl k2729_77_12 ⟨rfl, rfl⟩ (by decide) (by decide)
theorem m_leftOf (hw : own_hw a0 Z) {h0 : Heap} {ex : Addr} {pv : Value} (hpv : pv.isRef = true) (F : Fld Z h0 ex "java/util/TreeMap$Entry" "left" "Ljava/util/TreeMap$Entry;" pv) :
    Does l Z n0 ⟨"java/util/TreeMap", "leftOf", "(Ljava/util/TreeMap$Entry;)Ljava/util/TreeMap$Entry;"⟩ jdk_2729_method_79_code 1 (some (.object "java/util/TreeMap$Entry")) [] { frames := 0, cells := 0, slots := 0, locals := 0 } #[(.ref ex)] h0 (fun v h => v = some pv ∧ h0 = h) := by
  refine Does.start (plainFor_of_name pn_2) ?_
  intro p e s m below meth c T X
  replace X : Sd _ _ _ _ _ "java/util/TreeMap" "leftOf" _ _ _ _ _ _ _ _ _ _ _ _ _ _ _ _ := X
  refine Wp.cast (g' := mkF m 0 #[.val (.ref ex)] []) (by first | (simp [entryFrame, mkF, argsToLocals, Value.category, maxLocals]; done) | rfl) ?_
  refine w_aloadN X k2729_79_0 rfl (rfl) ?_
  refine w_ifnonnullT X k2729_79_1 ?_
  refine w_aloadN X k2729_79_8 rfl (rfl) ?_
  refine w_getF X k2729_79_9 (host := "") (Or.inl (wd_219 hw)) Via.refl F (fun T X => ?_)
  exact w_retR X rfl (hpv) rfl k2729_79_12 ⟨rfl, rfl⟩ (by decide) (by decide)
theorem m_rightOf (hw : own_hw a0 Z) {h0 : Heap} {ex : Addr} {pv : Value} (hpv : pv.isRef = true) (F : Fld Z h0 ex "java/util/TreeMap$Entry" "right" "Ljava/util/TreeMap$Entry;" pv) :
    Does l Z n0 ⟨"java/util/TreeMap", "rightOf", "(Ljava/util/TreeMap$Entry;)Ljava/util/TreeMap$Entry;"⟩ jdk_2729_method_80_code 1 (some (.object "java/util/TreeMap$Entry")) [] { frames := 0, cells := 0, slots := 0, locals := 0 } #[(.ref ex)] h0 (fun v h => v = some pv ∧ h0 = h) := by
  refine Does.start (plainFor_of_name pn_2) ?_
  intro p e s m below meth c T X
  replace X : Sd _ _ _ _ _ "java/util/TreeMap" "rightOf" _ _ _ _ _ _ _ _ _ _ _ _ _ _ _ _ := X
  refine Wp.cast (g' := mkF m 0 #[.val (.ref ex)] []) (by first | (simp [entryFrame, mkF, argsToLocals, Value.category, maxLocals]; done) | rfl) ?_
  refine w_aloadN X k2729_80_0 rfl (rfl) ?_
  refine w_ifnonnullT X k2729_80_1 ?_
  refine w_aloadN X k2729_80_8 rfl (rfl) ?_
  refine w_getF X k2729_80_9 (host := "") (Or.inl (wd_150 hw)) Via.refl F (fun T X => ?_)
  exact w_retR X rfl (hpv) rfl k2729_80_12 ⟨rfl, rfl⟩ (by decide) (by decide)
theorem m_con (hw : own_hw a0 Z) {h0 : Heap}   :
    Does l Z n0 ⟨"java/util/TreeMap", "colorOf", "(Ljava/util/TreeMap$Entry;)Z"⟩ jdk_2729_method_76_code 1 (some .boolean) [] { frames := 0, cells := 0, slots := 0, locals := 0 } #[.null] h0 (fun v h => v = some (.int (1 : Int32)) ∧ h0 = h) := by
  refine Does.start (plainFor_of_name pn_2) ?_
  intro p e s m below meth c T X
  replace X : Sd _ _ _ _ _ "java/util/TreeMap" "colorOf" _ _ _ _ _ _ _ _ _ _ _ _ _ _ _ _ := X
  refine Wp.cast (g' := mkF m 0 #[.val .null] []) (by first | (simp [entryFrame, mkF, argsToLocals, Value.category, maxLocals]; done) | rfl) ?_
  refine w_aloadN X k2729_76_0 rfl (rfl) ?_
  refine w_ifnonnullF X k2729_76_1 ?_
  refine w_iconst X (1 : Int32) k2729_76_4 rfl ?_
  refine w_goto X k2729_76_5 ?_
  exact w_ret_boolean X (1 : Int32) (by decide) k2729_76_12 ⟨rfl, rfl⟩ (by decide) (by decide)
theorem m_sc0 (hw : own_hw a0 Z) {h0 : Heap} {ex : Addr} {kv vv lv rv pv : Value} {col : Int32} (N0 : own_N Z n0 h0 ex kv vv lv rv pv col) :
    Does l Z n0 ⟨"java/util/TreeMap", "setColor", "(Ljava/util/TreeMap$Entry;Z)V"⟩ jdk_2729_method_78_code 2 none [] { frames := 0, cells := 0, slots := 0, locals := 0 } #[(.ref ex), (.int (0 : Int32))] h0 (fun v h => v = none ∧ own_N Z n0 h ex kv vv lv rv pv (0 : Int32) ∧ Keep h0 h [ex]) := by
  refine Does.start (plainFor_of_name pn_2) ?_
  intro p e s m below meth c T X
  replace X : Sd _ _ _ _ _ "java/util/TreeMap" "setColor" _ _ _ _ _ _ _ _ _ _ _ _ _ _ _ _ := X
  refine Wp.cast (g' := mkF m 0 #[.val (.ref ex), .val (.int (0 : Int32))] []) (by first | (simp [entryFrame, mkF, argsToLocals, Value.category, maxLocals]; done) | rfl) ?_
  refine w_aloadN X k2729_78_0 rfl (rfl) ?_
  refine w_ifnullF X k2729_78_1 ?_
  refine w_aloadN X k2729_78_4 rfl (rfl) ?_
  refine w_iloadN X k2729_78_5 rfl ?_
  refine w_putFN X k2729_78_6 (wd_162 hw) Via.refl N0.2.2.2.2.2.2.2 N0.2.1 (Or.inl (wd_113 hw)) (wd_105 hw) (ty := .boolean) (by decide) (.int (0 : Int32)) rfl (by decide) N0.1 (fun T h1 X W1 => ?_)
  have f1 := N0.2.2.2.2.2.2.2.same W1
  have K2 : Keep h0 h1 [ex] := (Keep.refl h0 [ex]).wr W1 (Or.inl (List.mem_of_getElem? (i := 0) rfl))
  have f3 := (N0.2.1.wr W1)
  have f4 := (N0.2.2.1.other W1 (Or.inr (slot_ne (Or.inl (wd_115 hw)) (Or.inl (wd_113 hw)) (by decide) (t := (.object "java/lang/Object")) (t' := .boolean) (by decide) (by decide))))
  have f5 := (N0.2.2.2.1.other W1 (Or.inr (slot_ne (Or.inl (wd_117 hw)) (Or.inl (wd_113 hw)) (by decide) (t := (.object "java/lang/Object")) (t' := .boolean) (by decide) (by decide))))
  have f6 := (N0.2.2.2.2.1.other W1 (Or.inr (slot_ne (Or.inl (wd_220 hw)) (Or.inl (wd_113 hw)) (by decide) (t := (.object "java/util/TreeMap$Entry")) (t' := .boolean) (by decide) (by decide))))
  have f7 := (N0.2.2.2.2.2.1.other W1 (Or.inr (slot_ne (Or.inl (wd_151 hw)) (Or.inl (wd_113 hw)) (by decide) (t := (.object "java/util/TreeMap$Entry")) (t' := .boolean) (by decide) (by decide))))
  have f8 := (N0.2.2.2.2.2.2.1.other W1 (Or.inr (slot_ne (Or.inl (wd_119 hw)) (Or.inl (wd_113 hw)) (by decide) (t := (.object "java/util/TreeMap$Entry")) (t' := .boolean) (by decide) (by decide))))
  exact w_retV X k2729_78_9 ⟨rfl, ⟨N0.1, f3, f4, f5, f6, f7, f8, f1⟩, K2⟩ (by decide) (by decide)
theorem m_sc1 (hw : own_hw a0 Z) {h0 : Heap} {ex : Addr} {kv vv lv rv pv : Value} {col : Int32} (N0 : own_N Z n0 h0 ex kv vv lv rv pv col) :
    Does l Z n0 ⟨"java/util/TreeMap", "setColor", "(Ljava/util/TreeMap$Entry;Z)V"⟩ jdk_2729_method_78_code 2 none [] { frames := 0, cells := 0, slots := 0, locals := 0 } #[(.ref ex), (.int (1 : Int32))] h0 (fun v h => v = none ∧ own_N Z n0 h ex kv vv lv rv pv (1 : Int32) ∧ Keep h0 h [ex]) := by
  refine Does.start (plainFor_of_name pn_2) ?_
  intro p e s m below meth c T X
  replace X : Sd _ _ _ _ _ "java/util/TreeMap" "setColor" _ _ _ _ _ _ _ _ _ _ _ _ _ _ _ _ := X
  refine Wp.cast (g' := mkF m 0 #[.val (.ref ex), .val (.int (1 : Int32))] []) (by first | (simp [entryFrame, mkF, argsToLocals, Value.category, maxLocals]; done) | rfl) ?_
  refine w_aloadN X k2729_78_0 rfl (rfl) ?_
  refine w_ifnullF X k2729_78_1 ?_
  refine w_aloadN X k2729_78_4 rfl (rfl) ?_
  refine w_iloadN X k2729_78_5 rfl ?_
  refine w_putFN X k2729_78_6 (wd_162 hw) Via.refl N0.2.2.2.2.2.2.2 N0.2.1 (Or.inl (wd_113 hw)) (wd_105 hw) (ty := .boolean) (by decide) (.int (1 : Int32)) rfl (by decide) N0.1 (fun T h1 X W1 => ?_)
  have f1 := N0.2.2.2.2.2.2.2.same W1
  have K2 : Keep h0 h1 [ex] := (Keep.refl h0 [ex]).wr W1 (Or.inl (List.mem_of_getElem? (i := 0) rfl))
  have f3 := (N0.2.1.wr W1)
  have f4 := (N0.2.2.1.other W1 (Or.inr (slot_ne (Or.inl (wd_115 hw)) (Or.inl (wd_113 hw)) (by decide) (t := (.object "java/lang/Object")) (t' := .boolean) (by decide) (by decide))))
  have f5 := (N0.2.2.2.1.other W1 (Or.inr (slot_ne (Or.inl (wd_117 hw)) (Or.inl (wd_113 hw)) (by decide) (t := (.object "java/lang/Object")) (t' := .boolean) (by decide) (by decide))))
  have f6 := (N0.2.2.2.2.1.other W1 (Or.inr (slot_ne (Or.inl (wd_220 hw)) (Or.inl (wd_113 hw)) (by decide) (t := (.object "java/util/TreeMap$Entry")) (t' := .boolean) (by decide) (by decide))))
  have f7 := (N0.2.2.2.2.2.1.other W1 (Or.inr (slot_ne (Or.inl (wd_151 hw)) (Or.inl (wd_113 hw)) (by decide) (t := (.object "java/util/TreeMap$Entry")) (t' := .boolean) (by decide) (by decide))))
  have f8 := (N0.2.2.2.2.2.2.1.other W1 (Or.inr (slot_ne (Or.inl (wd_119 hw)) (Or.inl (wd_113 hw)) (by decide) (t := (.object "java/util/TreeMap$Entry")) (t' := .boolean) (by decide) (by decide))))
  exact w_retV X k2729_78_9 ⟨rfl, ⟨N0.1, f3, f4, f5, f6, f7, f8, f1⟩, K2⟩ (by decide) (by decide)
theorem m_rr0 (hw : own_hw a0 Z) {h0 : Heap} {ea eb tm : Addr} {ka va ra kb vb lb pb ro ev : Value} {ca cb sz mc : Int32} (N_ea : own_N Z n0 h0 ea ka va (.ref eb) ra .null ca) (N_eb : own_N Z n0 h0 eb kb vb lb .null pb cb) (M0 : own_M Z n0 h0 tm ro ev sz mc) (ne_ea_eb : ea ≠ eb) :
    Does l Z n0 ⟨"java/util/TreeMap", "rotateRight", "(Ljava/util/TreeMap$Entry;)V"⟩ jdk_2729_method_82_code 3 none [] { frames := 0, cells := 0, slots := 0, locals := 0 } #[(.ref tm), (.ref ea)] h0 (fun v h => v = none ∧ own_N Z n0 h ea ka va .null ra (.ref eb) ca ∧ own_N Z n0 h eb kb vb lb (.ref ea) .null cb ∧ own_M Z n0 h tm (.ref eb) ev sz mc ∧ Keep h0 h [ea, eb, tm]) := by
  refine Does.start (plainFor_of_name pn_2) ?_
  intro p e s m below meth c T X
  replace X : Sd _ _ _ _ _ "java/util/TreeMap" "rotateRight" _ _ _ _ _ _ _ _ _ _ _ _ _ _ _ _ := X
  refine Wp.cast (g' := mkF m 0 #[.val (.ref tm), .val (.ref ea), .unset] []) (by first | (simp [entryFrame, mkF, argsToLocals, Value.category, maxLocals]; done) | rfl) ?_
  refine w_aloadN X k2729_82_0 rfl (rfl) ?_
  refine w_ifnullF X k2729_82_1 ?_
  refine w_aloadN X k2729_82_4 rfl (rfl) ?_
  refine w_getF X k2729_82_5 (host := "") (Or.inl (wd_219 hw)) Via.refl N_ea.2.2.2.2.1 (fun T X => ?_)
  refine w_astoreN X #[.val (.ref tm), .val (.ref ea), .val (.ref eb)] k2729_82_8 (rfl) rfl ?_
  refine w_aloadN X k2729_82_9 rfl (rfl) ?_
  refine w_aloadN X k2729_82_10 rfl (rfl) ?_
  refine w_getF X k2729_82_11 (host := "") (Or.inl (wd_150 hw)) Via.refl N_eb.2.2.2.2.2.1 (fun T X => ?_)
  refine w_putF X k2729_82_14 (host := "") (Or.inl (wd_219 hw)) Via.refl N_ea.2.2.2.2.1 N_ea.2.1 (Or.inl (wd_220 hw)) (wd_105 hw) (ty := (.object "java/util/TreeMap$Entry")) (by decide) rfl rfl N_ea.1 (fun T h1 X W1 => ?_)
  have f1 := N_ea.2.2.2.2.1.same W1
  have K2 : Keep h0 h1 [ea, eb, tm] := (Keep.refl h0 [ea, eb, tm]).wr W1 (Or.inl (List.mem_of_getElem? (i := 0) rfl))
  refine w_aloadN X k2729_82_17 rfl (rfl) ?_
  have f3 := (N_eb.2.2.2.2.2.1.other W1 (Or.inl (Ne.symm ne_ea_eb)))
  refine w_getF X k2729_82_18 (host := "") (Or.inl (wd_150 hw)) Via.refl f3 (fun T X => ?_)
  refine w_ifnullT X k2729_82_21 ?_
  refine w_aloadN X k2729_82_32 rfl (rfl) ?_
  refine w_aloadN X k2729_82_33 rfl (rfl) ?_
  have f4 := (N_ea.2.2.2.2.2.2.1.other W1 (Or.inr (slot_ne (Or.inl (wd_119 hw)) (Or.inl (wd_220 hw)) (by decide) (t := (.object "java/util/TreeMap$Entry")) (t' := (.object "java/util/TreeMap$Entry")) (by decide) (by decide))))
  refine w_getF X k2729_82_34 (host := "") (Or.inl (wd_163 hw)) Via.refl f4 (fun T X => ?_)
  have f5 := (N_eb.2.1.wr W1)
  have f6 := (N_eb.2.2.2.2.2.2.1.other W1 (Or.inl (Ne.symm ne_ea_eb)))
  refine w_putF X k2729_82_37 (host := "") (Or.inl (wd_163 hw)) Via.refl f6 f5 (Or.inl (wd_119 hw)) (wd_105 hw) (ty := (.object "java/util/TreeMap$Entry")) (by decide) rfl rfl N_eb.1 (fun T h2 X W2 => ?_)
  have f7 := f6.same W2
  have K8 : Keep h0 h2 [ea, eb, tm] := K2.wr W2 (Or.inl (List.mem_of_getElem? (i := 1) rfl))
  refine w_aloadN X k2729_82_40 rfl (rfl) ?_
  have f9 := (f4.other W2 (Or.inl ne_ea_eb))
  refine w_getF X k2729_82_41 (host := "") (Or.inl (wd_163 hw)) Via.refl f9 (fun T X => ?_)
  refine w_ifnonnullF X k2729_82_44 ?_
  refine w_aloadN X k2729_82_47 rfl (rfl) ?_
  refine w_aloadN X k2729_82_48 rfl (rfl) ?_
  have f10 := ((M0.2.1.wr W1).wr W2)
  have f11 := ((N_ea.2.1.wr W1).wr W2)
  have f12 := (f5.wr W2)
  have f13 := ((M0.2.2.1.other W1 (Or.inl (Exa.ne f10 f11 (by decide)))).other W2 (Or.inl (Exa.ne f10 f12 (by decide))))
  refine w_putF X k2729_82_49 (host := "") (Or.inl (wd_71 hw)) Via.refl f13 f10 (Or.inl (wd_72 hw)) (wd_24 hw) (ty := (.object "java/util/TreeMap$Entry")) (by decide) rfl rfl M0.1 (fun T h3 X W3 => ?_)
  have f14 := f13.same W3
  have K15 : Keep h0 h3 [ea, eb, tm] := K8.wr W3 (Or.inl (List.mem_of_getElem? (i := 2) rfl))
  refine w_goto X k2729_82_52 ?_
  refine w_aloadN X k2729_82_85 rfl (rfl) ?_
  refine w_aloadN X k2729_82_86 rfl (rfl) ?_
  have f16 := (f12.wr W3)
  have f17 := (f10.wr W3)
  have f18 := ((f3.other W2 (Or.inr (slot_ne (Or.inl (wd_151 hw)) (Or.inl (wd_119 hw)) (by decide) (t := (.object "java/util/TreeMap$Entry")) (t' := (.object "java/util/TreeMap$Entry")) (by decide) (by decide)))).other W3 (Or.inl (Exa.ne f16 f17 (by decide))))
  refine w_putF X k2729_82_87 (host := "") (Or.inl (wd_150 hw)) Via.refl f18 f16 (Or.inl (wd_151 hw)) (wd_105 hw) (ty := (.object "java/util/TreeMap$Entry")) (by decide) rfl rfl N_eb.1 (fun T h4 X W4 => ?_)
  have f19 := f18.same W4
  have K20 : Keep h0 h4 [ea, eb, tm] := K15.wr W4 (Or.inl (List.mem_of_getElem? (i := 1) rfl))
  refine w_aloadN X k2729_82_90 rfl (rfl) ?_
  refine w_aloadN X k2729_82_91 rfl (rfl) ?_
  have f21 := ((f11.wr W3).wr W4)
  have f22 := (f17.wr W4)
  have f23 := ((f9.other W3 (Or.inl (Exa.ne f21 f22 (by decide)))).other W4 (Or.inl ne_ea_eb))
  refine w_putF X k2729_82_92 (host := "") (Or.inl (wd_163 hw)) Via.refl f23 f21 (Or.inl (wd_119 hw)) (wd_105 hw) (ty := (.object "java/util/TreeMap$Entry")) (by decide) rfl rfl N_ea.1 (fun T h5 X W5 => ?_)
  have f24 := f23.same W5
  have K25 : Keep h0 h5 [ea, eb, tm] := K20.wr W5 (Or.inl (List.mem_of_getElem? (i := 0) rfl))
  have f26 := (f21.wr W5)
  have f27 := (f22.wr W5)
  have f28 := (((((N_ea.2.2.1.other W1 (Or.inr (slot_ne (Or.inl (wd_115 hw)) (Or.inl (wd_220 hw)) (by decide) (t := (.object "java/lang/Object")) (t' := (.object "java/util/TreeMap$Entry")) (by decide) (by decide)))).other W2 (Or.inl ne_ea_eb)).other W3 (Or.inl (Exa.ne f26 f27 (by decide)))).other W4 (Or.inl ne_ea_eb)).other W5 (Or.inr (slot_ne (Or.inl (wd_115 hw)) (Or.inl (wd_119 hw)) (by decide) (t := (.object "java/lang/Object")) (t' := (.object "java/util/TreeMap$Entry")) (by decide) (by decide))))
  have f29 := (((((N_ea.2.2.2.1.other W1 (Or.inr (slot_ne (Or.inl (wd_117 hw)) (Or.inl (wd_220 hw)) (by decide) (t := (.object "java/lang/Object")) (t' := (.object "java/util/TreeMap$Entry")) (by decide) (by decide)))).other W2 (Or.inl ne_ea_eb)).other W3 (Or.inl (Exa.ne f26 f27 (by decide)))).other W4 (Or.inl ne_ea_eb)).other W5 (Or.inr (slot_ne (Or.inl (wd_117 hw)) (Or.inl (wd_119 hw)) (by decide) (t := (.object "java/lang/Object")) (t' := (.object "java/util/TreeMap$Entry")) (by decide) (by decide))))
  have f30 := ((((f1.other W2 (Or.inl ne_ea_eb)).other W3 (Or.inl (Exa.ne f26 f27 (by decide)))).other W4 (Or.inl ne_ea_eb)).other W5 (Or.inr (slot_ne (Or.inl (wd_220 hw)) (Or.inl (wd_119 hw)) (by decide) (t := (.object "java/util/TreeMap$Entry")) (t' := (.object "java/util/TreeMap$Entry")) (by decide) (by decide))))
  have f31 := (((((N_ea.2.2.2.2.2.1.other W1 (Or.inr (slot_ne (Or.inl (wd_151 hw)) (Or.inl (wd_220 hw)) (by decide) (t := (.object "java/util/TreeMap$Entry")) (t' := (.object "java/util/TreeMap$Entry")) (by decide) (by decide)))).other W2 (Or.inl ne_ea_eb)).other W3 (Or.inl (Exa.ne f26 f27 (by decide)))).other W4 (Or.inl ne_ea_eb)).other W5 (Or.inr (slot_ne (Or.inl (wd_151 hw)) (Or.inl (wd_119 hw)) (by decide) (t := (.object "java/util/TreeMap$Entry")) (t' := (.object "java/util/TreeMap$Entry")) (by decide) (by decide))))
  have f32 := (((((N_ea.2.2.2.2.2.2.2.other W1 (Or.inr (slot_ne (Or.inl (wd_113 hw)) (Or.inl (wd_220 hw)) (by decide) (t := .boolean) (t' := (.object "java/util/TreeMap$Entry")) (by decide) (by decide)))).other W2 (Or.inl ne_ea_eb)).other W3 (Or.inl (Exa.ne f26 f27 (by decide)))).other W4 (Or.inl ne_ea_eb)).other W5 (Or.inr (slot_ne (Or.inl (wd_113 hw)) (Or.inl (wd_119 hw)) (by decide) (t := .boolean) (t' := (.object "java/util/TreeMap$Entry")) (by decide) (by decide))))
  have f33 := ((f16.wr W4).wr W5)
  have f34 := (((((N_eb.2.2.1.other W1 (Or.inl (Ne.symm ne_ea_eb))).other W2 (Or.inr (slot_ne (Or.inl (wd_115 hw)) (Or.inl (wd_119 hw)) (by decide) (t := (.object "java/lang/Object")) (t' := (.object "java/util/TreeMap$Entry")) (by decide) (by decide)))).other W3 (Or.inl (Exa.ne f33 f27 (by decide)))).other W4 (Or.inr (slot_ne (Or.inl (wd_115 hw)) (Or.inl (wd_151 hw)) (by decide) (t := (.object "java/lang/Object")) (t' := (.object "java/util/TreeMap$Entry")) (by decide) (by decide)))).other W5 (Or.inl (Ne.symm ne_ea_eb)))
  have f35 := (((((N_eb.2.2.2.1.other W1 (Or.inl (Ne.symm ne_ea_eb))).other W2 (Or.inr (slot_ne (Or.inl (wd_117 hw)) (Or.inl (wd_119 hw)) (by decide) (t := (.object "java/lang/Object")) (t' := (.object "java/util/TreeMap$Entry")) (by decide) (by decide)))).other W3 (Or.inl (Exa.ne f33 f27 (by decide)))).other W4 (Or.inr (slot_ne (Or.inl (wd_117 hw)) (Or.inl (wd_151 hw)) (by decide) (t := (.object "java/lang/Object")) (t' := (.object "java/util/TreeMap$Entry")) (by decide) (by decide)))).other W5 (Or.inl (Ne.symm ne_ea_eb)))
  have f36 := (((((N_eb.2.2.2.2.1.other W1 (Or.inl (Ne.symm ne_ea_eb))).other W2 (Or.inr (slot_ne (Or.inl (wd_220 hw)) (Or.inl (wd_119 hw)) (by decide) (t := (.object "java/util/TreeMap$Entry")) (t' := (.object "java/util/TreeMap$Entry")) (by decide) (by decide)))).other W3 (Or.inl (Exa.ne f33 f27 (by decide)))).other W4 (Or.inr (slot_ne (Or.inl (wd_220 hw)) (Or.inl (wd_151 hw)) (by decide) (t := (.object "java/util/TreeMap$Entry")) (t' := (.object "java/util/TreeMap$Entry")) (by decide) (by decide)))).other W5 (Or.inl (Ne.symm ne_ea_eb)))
  have f37 := (f19.other W5 (Or.inl (Ne.symm ne_ea_eb)))
  have f38 := (((f7.other W3 (Or.inl (Exa.ne f33 f27 (by decide)))).other W4 (Or.inr (slot_ne (Or.inl (wd_119 hw)) (Or.inl (wd_151 hw)) (by decide) (t := (.object "java/util/TreeMap$Entry")) (t' := (.object "java/util/TreeMap$Entry")) (by decide) (by decide)))).other W5 (Or.inl (Ne.symm ne_ea_eb)))
  have f39 := (((((N_eb.2.2.2.2.2.2.2.other W1 (Or.inl (Ne.symm ne_ea_eb))).other W2 (Or.inr (slot_ne (Or.inl (wd_113 hw)) (Or.inl (wd_119 hw)) (by decide) (t := .boolean) (t' := (.object "java/util/TreeMap$Entry")) (by decide) (by decide)))).other W3 (Or.inl (Exa.ne f33 f27 (by decide)))).other W4 (Or.inr (slot_ne (Or.inl (wd_113 hw)) (Or.inl (wd_151 hw)) (by decide) (t := .boolean) (t' := (.object "java/util/TreeMap$Entry")) (by decide) (by decide)))).other W5 (Or.inl (Ne.symm ne_ea_eb)))
  have f40 := ((f14.other W4 (Or.inl (Exa.ne f27 f33 (by decide)))).other W5 (Or.inl (Exa.ne f27 f26 (by decide))))
  have f41 := (((((M0.2.2.2.1.other W1 (Or.inl (Exa.ne f27 f26 (by decide)))).other W2 (Or.inl (Exa.ne f27 f33 (by decide)))).other W3 (Or.inr (slot_ne (Or.inl (wd_37 hw)) (Or.inl (wd_72 hw)) (by decide) (t := .int) (t' := (.object "java/util/TreeMap$Entry")) (by decide) (by decide)))).other W4 (Or.inl (Exa.ne f27 f33 (by decide)))).other W5 (Or.inl (Exa.ne f27 f26 (by decide))))
  have f42 := (((((M0.2.2.2.2.1.other W1 (Or.inl (Exa.ne f27 f26 (by decide)))).other W2 (Or.inl (Exa.ne f27 f33 (by decide)))).other W3 (Or.inr (slot_ne (Or.inl (wd_39 hw)) (Or.inl (wd_72 hw)) (by decide) (t := .int) (t' := (.object "java/util/TreeMap$Entry")) (by decide) (by decide)))).other W4 (Or.inl (Exa.ne f27 f33 (by decide)))).other W5 (Or.inl (Exa.ne f27 f26 (by decide))))
  have f43 := (((((M0.2.2.2.2.2.1.other W1 (Or.inl (Exa.ne f27 f26 (by decide)))).other W2 (Or.inl (Exa.ne f27 f33 (by decide)))).other W3 (Or.inr (slot_ne (Or.inr (wd_41 hw)) (Or.inl (wd_72 hw)) (by decide) (t := (.object "java/util/Comparator")) (t' := (.object "java/util/TreeMap$Entry")) (by decide) (by decide)))).other W4 (Or.inl (Exa.ne f27 f33 (by decide)))).other W5 (Or.inl (Exa.ne f27 f26 (by decide))))
  have f44 := (((((M0.2.2.2.2.2.2.other W1 (Or.inl (Exa.ne f27 f26 (by decide)))).other W2 (Or.inl (Exa.ne f27 f33 (by decide)))).other W3 (Or.inr (slot_ne (Or.inl (wd_179 hw)) (Or.inl (wd_72 hw)) (by decide) (t := (.object "java/util/TreeMap$EntrySet")) (t' := (.object "java/util/TreeMap$Entry")) (by decide) (by decide)))).other W4 (Or.inl (Exa.ne f27 f33 (by decide)))).other W5 (Or.inl (Exa.ne f27 f26 (by decide))))
  exact w_retV X k2729_82_95 ⟨rfl, ⟨N_ea.1, f26, f28, f29, f30, f31, f24, f32⟩, ⟨N_eb.1, f33, f34, f35, f36, f37, f38, f39⟩, ⟨M0.1, f27, f40, f41, f42, f43, f44⟩, K25⟩ (by decide) (by decide)
theorem m_rl0 (hw : own_hw a0 Z) {h0 : Heap} {ea eb tm : Addr} {ka va la kb vb rb pb ro ev : Value} {ca cb sz mc : Int32} (N_ea : own_N Z n0 h0 ea ka va la (.ref eb) .null ca) (N_eb : own_N Z n0 h0 eb kb vb .null rb pb cb) (M0 : own_M Z n0 h0 tm ro ev sz mc) (ne_ea_eb : ea ≠ eb) :
    Does l Z n0 ⟨"java/util/TreeMap", "rotateLeft", "(Ljava/util/TreeMap$Entry;)V"⟩ jdk_2729_method_81_code 3 none [] { frames := 0, cells := 0, slots := 0, locals := 0 } #[(.ref tm), (.ref ea)] h0 (fun v h => v = none ∧ own_N Z n0 h ea ka va la .null (.ref eb) ca ∧ own_N Z n0 h eb kb vb (.ref ea) rb .null cb ∧ own_M Z n0 h tm (.ref eb) ev sz mc ∧ Keep h0 h [ea, eb, tm]) := by
  refine Does.start (plainFor_of_name pn_2) ?_
  intro p e s m below meth c T X
  replace X : Sd _ _ _ _ _ "java/util/TreeMap" "rotateLeft" _ _ _ _ _ _ _ _ _ _ _ _ _ _ _ _ := X
  refine Wp.cast (g' := mkF m 0 #[.val (.ref tm), .val (.ref ea), .unset] []) (by first | (simp [entryFrame, mkF, argsToLocals, Value.category, maxLocals]; done) | rfl) ?_
  refine w_aloadN X k2729_81_0 rfl (rfl) ?_
  refine w_ifnullF X k2729_81_1 ?_
  refine w_aloadN X k2729_81_4 rfl (rfl) ?_
  refine w_getF X k2729_81_5 (host := "") (Or.inl (wd_150 hw)) Via.refl N_ea.2.2.2.2.2.1 (fun T X => ?_)
  refine w_astoreN X #[.val (.ref tm), .val (.ref ea), .val (.ref eb)] k2729_81_8 (rfl) rfl ?_
  refine w_aloadN X k2729_81_9 rfl (rfl) ?_
  refine w_aloadN X k2729_81_10 rfl (rfl) ?_
  refine w_getF X k2729_81_11 (host := "") (Or.inl (wd_219 hw)) Via.refl N_eb.2.2.2.2.1 (fun T X => ?_)
  refine w_putF X k2729_81_14 (host := "") (Or.inl (wd_150 hw)) Via.refl N_ea.2.2.2.2.2.1 N_ea.2.1 (Or.inl (wd_151 hw)) (wd_105 hw) (ty := (.object "java/util/TreeMap$Entry")) (by decide) rfl rfl N_ea.1 (fun T h1 X W1 => ?_)
  have f1 := N_ea.2.2.2.2.2.1.same W1
  have K2 : Keep h0 h1 [ea, eb, tm] := (Keep.refl h0 [ea, eb, tm]).wr W1 (Or.inl (List.mem_of_getElem? (i := 0) rfl))
  refine w_aloadN X k2729_81_17 rfl (rfl) ?_
  have f3 := (N_eb.2.2.2.2.1.other W1 (Or.inl (Ne.symm ne_ea_eb)))
  refine w_getF X k2729_81_18 (host := "") (Or.inl (wd_219 hw)) Via.refl f3 (fun T X => ?_)
  refine w_ifnullT X k2729_81_21 ?_
  refine w_aloadN X k2729_81_32 rfl (rfl) ?_
  refine w_aloadN X k2729_81_33 rfl (rfl) ?_
  have f4 := (N_ea.2.2.2.2.2.2.1.other W1 (Or.inr (slot_ne (Or.inl (wd_119 hw)) (Or.inl (wd_151 hw)) (by decide) (t := (.object "java/util/TreeMap$Entry")) (t' := (.object "java/util/TreeMap$Entry")) (by decide) (by decide))))
  refine w_getF X k2729_81_34 (host := "") (Or.inl (wd_163 hw)) Via.refl f4 (fun T X => ?_)
  have f5 := (N_eb.2.1.wr W1)
  have f6 := (N_eb.2.2.2.2.2.2.1.other W1 (Or.inl (Ne.symm ne_ea_eb)))
  refine w_putF X k2729_81_37 (host := "") (Or.inl (wd_163 hw)) Via.refl f6 f5 (Or.inl (wd_119 hw)) (wd_105 hw) (ty := (.object "java/util/TreeMap$Entry")) (by decide) rfl rfl N_eb.1 (fun T h2 X W2 => ?_)
  have f7 := f6.same W2
  have K8 : Keep h0 h2 [ea, eb, tm] := K2.wr W2 (Or.inl (List.mem_of_getElem? (i := 1) rfl))
  refine w_aloadN X k2729_81_40 rfl (rfl) ?_
  have f9 := (f4.other W2 (Or.inl ne_ea_eb))
  refine w_getF X k2729_81_41 (host := "") (Or.inl (wd_163 hw)) Via.refl f9 (fun T X => ?_)
  refine w_ifnonnullF X k2729_81_44 ?_
  refine w_aloadN X k2729_81_47 rfl (rfl) ?_
  refine w_aloadN X k2729_81_48 rfl (rfl) ?_
  have f10 := ((M0.2.1.wr W1).wr W2)
  have f11 := ((N_ea.2.1.wr W1).wr W2)
  have f12 := (f5.wr W2)
  have f13 := ((M0.2.2.1.other W1 (Or.inl (Exa.ne f10 f11 (by decide)))).other W2 (Or.inl (Exa.ne f10 f12 (by decide))))
  refine w_putF X k2729_81_49 (host := "") (Or.inl (wd_71 hw)) Via.refl f13 f10 (Or.inl (wd_72 hw)) (wd_24 hw) (ty := (.object "java/util/TreeMap$Entry")) (by decide) rfl rfl M0.1 (fun T h3 X W3 => ?_)
  have f14 := f13.same W3
  have K15 : Keep h0 h3 [ea, eb, tm] := K8.wr W3 (Or.inl (List.mem_of_getElem? (i := 2) rfl))
  refine w_goto X k2729_81_52 ?_
  refine w_aloadN X k2729_81_85 rfl (rfl) ?_
  refine w_aloadN X k2729_81_86 rfl (rfl) ?_
  have f16 := (f12.wr W3)
  have f17 := (f10.wr W3)
  have f18 := ((f3.other W2 (Or.inr (slot_ne (Or.inl (wd_220 hw)) (Or.inl (wd_119 hw)) (by decide) (t := (.object "java/util/TreeMap$Entry")) (t' := (.object "java/util/TreeMap$Entry")) (by decide) (by decide)))).other W3 (Or.inl (Exa.ne f16 f17 (by decide))))
  refine w_putF X k2729_81_87 (host := "") (Or.inl (wd_219 hw)) Via.refl f18 f16 (Or.inl (wd_220 hw)) (wd_105 hw) (ty := (.object "java/util/TreeMap$Entry")) (by decide) rfl rfl N_eb.1 (fun T h4 X W4 => ?_)
  have f19 := f18.same W4
  have K20 : Keep h0 h4 [ea, eb, tm] := K15.wr W4 (Or.inl (List.mem_of_getElem? (i := 1) rfl))
  refine w_aloadN X k2729_81_90 rfl (rfl) ?_
  refine w_aloadN X k2729_81_91 rfl (rfl) ?_
  have f21 := ((f11.wr W3).wr W4)
  have f22 := (f17.wr W4)
  have f23 := ((f9.other W3 (Or.inl (Exa.ne f21 f22 (by decide)))).other W4 (Or.inl ne_ea_eb))
  refine w_putF X k2729_81_92 (host := "") (Or.inl (wd_163 hw)) Via.refl f23 f21 (Or.inl (wd_119 hw)) (wd_105 hw) (ty := (.object "java/util/TreeMap$Entry")) (by decide) rfl rfl N_ea.1 (fun T h5 X W5 => ?_)
  have f24 := f23.same W5
  have K25 : Keep h0 h5 [ea, eb, tm] := K20.wr W5 (Or.inl (List.mem_of_getElem? (i := 0) rfl))
  have f26 := (f21.wr W5)
  have f27 := (f22.wr W5)
  have f28 := (((((N_ea.2.2.1.other W1 (Or.inr (slot_ne (Or.inl (wd_115 hw)) (Or.inl (wd_151 hw)) (by decide) (t := (.object "java/lang/Object")) (t' := (.object "java/util/TreeMap$Entry")) (by decide) (by decide)))).other W2 (Or.inl ne_ea_eb)).other W3 (Or.inl (Exa.ne f26 f27 (by decide)))).other W4 (Or.inl ne_ea_eb)).other W5 (Or.inr (slot_ne (Or.inl (wd_115 hw)) (Or.inl (wd_119 hw)) (by decide) (t := (.object "java/lang/Object")) (t' := (.object "java/util/TreeMap$Entry")) (by decide) (by decide))))
  have f29 := (((((N_ea.2.2.2.1.other W1 (Or.inr (slot_ne (Or.inl (wd_117 hw)) (Or.inl (wd_151 hw)) (by decide) (t := (.object "java/lang/Object")) (t' := (.object "java/util/TreeMap$Entry")) (by decide) (by decide)))).other W2 (Or.inl ne_ea_eb)).other W3 (Or.inl (Exa.ne f26 f27 (by decide)))).other W4 (Or.inl ne_ea_eb)).other W5 (Or.inr (slot_ne (Or.inl (wd_117 hw)) (Or.inl (wd_119 hw)) (by decide) (t := (.object "java/lang/Object")) (t' := (.object "java/util/TreeMap$Entry")) (by decide) (by decide))))
  have f30 := (((((N_ea.2.2.2.2.1.other W1 (Or.inr (slot_ne (Or.inl (wd_220 hw)) (Or.inl (wd_151 hw)) (by decide) (t := (.object "java/util/TreeMap$Entry")) (t' := (.object "java/util/TreeMap$Entry")) (by decide) (by decide)))).other W2 (Or.inl ne_ea_eb)).other W3 (Or.inl (Exa.ne f26 f27 (by decide)))).other W4 (Or.inl ne_ea_eb)).other W5 (Or.inr (slot_ne (Or.inl (wd_220 hw)) (Or.inl (wd_119 hw)) (by decide) (t := (.object "java/util/TreeMap$Entry")) (t' := (.object "java/util/TreeMap$Entry")) (by decide) (by decide))))
  have f31 := ((((f1.other W2 (Or.inl ne_ea_eb)).other W3 (Or.inl (Exa.ne f26 f27 (by decide)))).other W4 (Or.inl ne_ea_eb)).other W5 (Or.inr (slot_ne (Or.inl (wd_151 hw)) (Or.inl (wd_119 hw)) (by decide) (t := (.object "java/util/TreeMap$Entry")) (t' := (.object "java/util/TreeMap$Entry")) (by decide) (by decide))))
  have f32 := (((((N_ea.2.2.2.2.2.2.2.other W1 (Or.inr (slot_ne (Or.inl (wd_113 hw)) (Or.inl (wd_151 hw)) (by decide) (t := .boolean) (t' := (.object "java/util/TreeMap$Entry")) (by decide) (by decide)))).other W2 (Or.inl ne_ea_eb)).other W3 (Or.inl (Exa.ne f26 f27 (by decide)))).other W4 (Or.inl ne_ea_eb)).other W5 (Or.inr (slot_ne (Or.inl (wd_113 hw)) (Or.inl (wd_119 hw)) (by decide) (t := .boolean) (t' := (.object "java/util/TreeMap$Entry")) (by decide) (by decide))))
  have f33 := ((f16.wr W4).wr W5)
  have f34 := (((((N_eb.2.2.1.other W1 (Or.inl (Ne.symm ne_ea_eb))).other W2 (Or.inr (slot_ne (Or.inl (wd_115 hw)) (Or.inl (wd_119 hw)) (by decide) (t := (.object "java/lang/Object")) (t' := (.object "java/util/TreeMap$Entry")) (by decide) (by decide)))).other W3 (Or.inl (Exa.ne f33 f27 (by decide)))).other W4 (Or.inr (slot_ne (Or.inl (wd_115 hw)) (Or.inl (wd_220 hw)) (by decide) (t := (.object "java/lang/Object")) (t' := (.object "java/util/TreeMap$Entry")) (by decide) (by decide)))).other W5 (Or.inl (Ne.symm ne_ea_eb)))
  have f35 := (((((N_eb.2.2.2.1.other W1 (Or.inl (Ne.symm ne_ea_eb))).other W2 (Or.inr (slot_ne (Or.inl (wd_117 hw)) (Or.inl (wd_119 hw)) (by decide) (t := (.object "java/lang/Object")) (t' := (.object "java/util/TreeMap$Entry")) (by decide) (by decide)))).other W3 (Or.inl (Exa.ne f33 f27 (by decide)))).other W4 (Or.inr (slot_ne (Or.inl (wd_117 hw)) (Or.inl (wd_220 hw)) (by decide) (t := (.object "java/lang/Object")) (t' := (.object "java/util/TreeMap$Entry")) (by decide) (by decide)))).other W5 (Or.inl (Ne.symm ne_ea_eb)))
  have f36 := (f19.other W5 (Or.inl (Ne.symm ne_ea_eb)))
  have f37 := (((((N_eb.2.2.2.2.2.1.other W1 (Or.inl (Ne.symm ne_ea_eb))).other W2 (Or.inr (slot_ne (Or.inl (wd_151 hw)) (Or.inl (wd_119 hw)) (by decide) (t := (.object "java/util/TreeMap$Entry")) (t' := (.object "java/util/TreeMap$Entry")) (by decide) (by decide)))).other W3 (Or.inl (Exa.ne f33 f27 (by decide)))).other W4 (Or.inr (slot_ne (Or.inl (wd_151 hw)) (Or.inl (wd_220 hw)) (by decide) (t := (.object "java/util/TreeMap$Entry")) (t' := (.object "java/util/TreeMap$Entry")) (by decide) (by decide)))).other W5 (Or.inl (Ne.symm ne_ea_eb)))
  have f38 := (((f7.other W3 (Or.inl (Exa.ne f33 f27 (by decide)))).other W4 (Or.inr (slot_ne (Or.inl (wd_119 hw)) (Or.inl (wd_220 hw)) (by decide) (t := (.object "java/util/TreeMap$Entry")) (t' := (.object "java/util/TreeMap$Entry")) (by decide) (by decide)))).other W5 (Or.inl (Ne.symm ne_ea_eb)))
  have f39 := (((((N_eb.2.2.2.2.2.2.2.other W1 (Or.inl (Ne.symm ne_ea_eb))).other W2 (Or.inr (slot_ne (Or.inl (wd_113 hw)) (Or.inl (wd_119 hw)) (by decide) (t := .boolean) (t' := (.object "java/util/TreeMap$Entry")) (by decide) (by decide)))).other W3 (Or.inl (Exa.ne f33 f27 (by decide)))).other W4 (Or.inr (slot_ne (Or.inl (wd_113 hw)) (Or.inl (wd_220 hw)) (by decide) (t := .boolean) (t' := (.object "java/util/TreeMap$Entry")) (by decide) (by decide)))).other W5 (Or.inl (Ne.symm ne_ea_eb)))
  have f40 := ((f14.other W4 (Or.inl (Exa.ne f27 f33 (by decide)))).other W5 (Or.inl (Exa.ne f27 f26 (by decide))))
  have f41 := (((((M0.2.2.2.1.other W1 (Or.inl (Exa.ne f27 f26 (by decide)))).other W2 (Or.inl (Exa.ne f27 f33 (by decide)))).other W3 (Or.inr (slot_ne (Or.inl (wd_37 hw)) (Or.inl (wd_72 hw)) (by decide) (t := .int) (t' := (.object "java/util/TreeMap$Entry")) (by decide) (by decide)))).other W4 (Or.inl (Exa.ne f27 f33 (by decide)))).other W5 (Or.inl (Exa.ne f27 f26 (by decide))))
  have f42 := (((((M0.2.2.2.2.1.other W1 (Or.inl (Exa.ne f27 f26 (by decide)))).other W2 (Or.inl (Exa.ne f27 f33 (by decide)))).other W3 (Or.inr (slot_ne (Or.inl (wd_39 hw)) (Or.inl (wd_72 hw)) (by decide) (t := .int) (t' := (.object "java/util/TreeMap$Entry")) (by decide) (by decide)))).other W4 (Or.inl (Exa.ne f27 f33 (by decide)))).other W5 (Or.inl (Exa.ne f27 f26 (by decide))))
  have f43 := (((((M0.2.2.2.2.2.1.other W1 (Or.inl (Exa.ne f27 f26 (by decide)))).other W2 (Or.inl (Exa.ne f27 f33 (by decide)))).other W3 (Or.inr (slot_ne (Or.inr (wd_41 hw)) (Or.inl (wd_72 hw)) (by decide) (t := (.object "java/util/Comparator")) (t' := (.object "java/util/TreeMap$Entry")) (by decide) (by decide)))).other W4 (Or.inl (Exa.ne f27 f33 (by decide)))).other W5 (Or.inl (Exa.ne f27 f26 (by decide))))
  have f44 := (((((M0.2.2.2.2.2.2.other W1 (Or.inl (Exa.ne f27 f26 (by decide)))).other W2 (Or.inl (Exa.ne f27 f33 (by decide)))).other W3 (Or.inr (slot_ne (Or.inl (wd_179 hw)) (Or.inl (wd_72 hw)) (by decide) (t := (.object "java/util/TreeMap$EntrySet")) (t' := (.object "java/util/TreeMap$Entry")) (by decide) (by decide)))).other W4 (Or.inl (Exa.ne f27 f33 (by decide)))).other W5 (Or.inl (Exa.ne f27 f26 (by decide))))
  exact w_retV X k2729_81_95 ⟨rfl, ⟨N_ea.1, f26, f28, f29, f30, f31, f24, f32⟩, ⟨N_eb.1, f33, f34, f35, f36, f37, f38, f39⟩, ⟨M0.1, f27, f40, f41, f42, f43, f44⟩, K25⟩ (by decide) (by decide)
theorem m_rl1 (hw : own_hw a0 Z) {h0 : Heap} {ea eb ec tm : Addr} {ka va la kb vb rb pb kc vc rc pc : Value} {ca cb cc : Int32} (N_ea : own_N Z n0 h0 ea ka va la (.ref eb) (.ref ec) ca) (N_eb : own_N Z n0 h0 eb kb vb .null rb pb cb) (N_ec : own_N Z n0 h0 ec kc vc (.ref ea) rc pc cc) (E_tm : Exa Z h0 tm "java/util/TreeMap") (ne_ea_eb : ea ≠ eb) (ne_ea_ec : ea ≠ ec) (ne_eb_ec : eb ≠ ec) :
    Does l Z n0 ⟨"java/util/TreeMap", "rotateLeft", "(Ljava/util/TreeMap$Entry;)V"⟩ jdk_2729_method_81_code 3 none [] { frames := 0, cells := 0, slots := 0, locals := 0 } #[(.ref tm), (.ref ea)] h0 (fun v h => v = none ∧ own_N Z n0 h ea ka va la .null (.ref eb) ca ∧ own_N Z n0 h eb kb vb (.ref ea) rb (.ref ec) cb ∧ own_N Z n0 h ec kc vc (.ref eb) rc pc cc ∧ Keep h0 h [ea, eb, ec]) := by
  refine Does.start (plainFor_of_name pn_2) ?_
  intro p e s m below meth c T X
  replace X : Sd _ _ _ _ _ "java/util/TreeMap" "rotateLeft" _ _ _ _ _ _ _ _ _ _ _ _ _ _ _ _ := X
  refine Wp.cast (g' := mkF m 0 #[.val (.ref tm), .val (.ref ea), .unset] []) (by first | (simp [entryFrame, mkF, argsToLocals, Value.category, maxLocals]; done) | rfl) ?_
  refine w_aloadN X k2729_81_0 rfl (rfl) ?_
  refine w_ifnullF X k2729_81_1 ?_
  refine w_aloadN X k2729_81_4 rfl (rfl) ?_
  refine w_getF X k2729_81_5 (host := "") (Or.inl (wd_150 hw)) Via.refl N_ea.2.2.2.2.2.1 (fun T X => ?_)
  refine w_astoreN X #[.val (.ref tm), .val (.ref ea), .val (.ref eb)] k2729_81_8 (rfl) rfl ?_
  refine w_aloadN X k2729_81_9 rfl (rfl) ?_
  refine w_aloadN X k2729_81_10 rfl (rfl) ?_
  refine w_getF X k2729_81_11 (host := "") (Or.inl (wd_219 hw)) Via.refl N_eb.2.2.2.2.1 (fun T X => ?_)
  refine w_putF X k2729_81_14 (host := "") (Or.inl (wd_150 hw)) Via.refl N_ea.2.2.2.2.2.1 N_ea.2.1 (Or.inl (wd_151 hw)) (wd_105 hw) (ty := (.object "java/util/TreeMap$Entry")) (by decide) rfl rfl N_ea.1 (fun T h1 X W1 => ?_)
  have f1 := N_ea.2.2.2.2.2.1.same W1
  have K2 : Keep h0 h1 [ea, eb, ec] := (Keep.refl h0 [ea, eb, ec]).wr W1 (Or.inl (List.mem_of_getElem? (i := 0) rfl))
  refine w_aloadN X k2729_81_17 rfl (rfl) ?_
  have f3 := (N_eb.2.2.2.2.1.other W1 (Or.inl (Ne.symm ne_ea_eb)))
  refine w_getF X k2729_81_18 (host := "") (Or.inl (wd_219 hw)) Via.refl f3 (fun T X => ?_)
  refine w_ifnullT X k2729_81_21 ?_
  refine w_aloadN X k2729_81_32 rfl (rfl) ?_
  refine w_aloadN X k2729_81_33 rfl (rfl) ?_
  have f4 := (N_ea.2.2.2.2.2.2.1.other W1 (Or.inr (slot_ne (Or.inl (wd_119 hw)) (Or.inl (wd_151 hw)) (by decide) (t := (.object "java/util/TreeMap$Entry")) (t' := (.object "java/util/TreeMap$Entry")) (by decide) (by decide))))
  refine w_getF X k2729_81_34 (host := "") (Or.inl (wd_163 hw)) Via.refl f4 (fun T X => ?_)
  have f5 := (N_eb.2.1.wr W1)
  have f6 := (N_eb.2.2.2.2.2.2.1.other W1 (Or.inl (Ne.symm ne_ea_eb)))
  refine w_putF X k2729_81_37 (host := "") (Or.inl (wd_163 hw)) Via.refl f6 f5 (Or.inl (wd_119 hw)) (wd_105 hw) (ty := (.object "java/util/TreeMap$Entry")) (by decide) rfl rfl N_eb.1 (fun T h2 X W2 => ?_)
  have f7 := f6.same W2
  have K8 : Keep h0 h2 [ea, eb, ec] := K2.wr W2 (Or.inl (List.mem_of_getElem? (i := 1) rfl))
  refine w_aloadN X k2729_81_40 rfl (rfl) ?_
  have f9 := (f4.other W2 (Or.inl ne_ea_eb))
  refine w_getF X k2729_81_41 (host := "") (Or.inl (wd_163 hw)) Via.refl f9 (fun T X => ?_)
  refine w_ifnonnullT X k2729_81_44 ?_
  refine w_aloadN X k2729_81_55 rfl (rfl) ?_
  refine w_getF X k2729_81_56 (host := "") (Or.inl (wd_163 hw)) Via.refl f9 (fun T X => ?_)
  have f10 := ((N_ec.2.2.2.2.1.other W1 (Or.inl (Ne.symm ne_ea_ec))).other W2 (Or.inl (Ne.symm ne_eb_ec)))
  refine w_getF X k2729_81_59 (host := "") (Or.inl (wd_219 hw)) Via.refl f10 (fun T X => ?_)
  refine w_aloadN X k2729_81_62 rfl (rfl) ?_
  refine w_acmpne X (rfl) (rfl) k2729_81_63 (fun hc => absurd rfl hc) (fun _ => ?_)
  refine w_aloadN X k2729_81_66 rfl (rfl) ?_
  refine w_getF X k2729_81_67 (host := "") (Or.inl (wd_163 hw)) Via.refl f9 (fun T X => ?_)
  refine w_aloadN X k2729_81_70 rfl (rfl) ?_
  have f11 := ((N_ec.2.1.wr W1).wr W2)
  refine w_putF X k2729_81_71 (host := "") (Or.inl (wd_219 hw)) Via.refl f10 f11 (Or.inl (wd_220 hw)) (wd_105 hw) (ty := (.object "java/util/TreeMap$Entry")) (by decide) rfl rfl N_ec.1 (fun T h3 X W3 => ?_)
  have f12 := f10.same W3
  have K13 : Keep h0 h3 [ea, eb, ec] := K8.wr W3 (Or.inl (List.mem_of_getElem? (i := 2) rfl))
  refine w_goto X k2729_81_74 ?_
  refine w_aloadN X k2729_81_85 rfl (rfl) ?_
  refine w_aloadN X k2729_81_86 rfl (rfl) ?_
  have f14 := ((f5.wr W2).wr W3)
  have f15 := ((f3.other W2 (Or.inr (slot_ne (Or.inl (wd_220 hw)) (Or.inl (wd_119 hw)) (by decide) (t := (.object "java/util/TreeMap$Entry")) (t' := (.object "java/util/TreeMap$Entry")) (by decide) (by decide)))).other W3 (Or.inl ne_eb_ec))
  refine w_putF X k2729_81_87 (host := "") (Or.inl (wd_219 hw)) Via.refl f15 f14 (Or.inl (wd_220 hw)) (wd_105 hw) (ty := (.object "java/util/TreeMap$Entry")) (by decide) rfl rfl N_eb.1 (fun T h4 X W4 => ?_)
  have f16 := f15.same W4
  have K17 : Keep h0 h4 [ea, eb, ec] := K13.wr W4 (Or.inl (List.mem_of_getElem? (i := 1) rfl))
  refine w_aloadN X k2729_81_90 rfl (rfl) ?_
  refine w_aloadN X k2729_81_91 rfl (rfl) ?_
  have f18 := ((((N_ea.2.1.wr W1).wr W2).wr W3).wr W4)
  have f19 := ((f9.other W3 (Or.inl ne_ea_ec)).other W4 (Or.inl ne_ea_eb))
  refine w_putF X k2729_81_92 (host := "") (Or.inl (wd_163 hw)) Via.refl f19 f18 (Or.inl (wd_119 hw)) (wd_105 hw) (ty := (.object "java/util/TreeMap$Entry")) (by decide) rfl rfl N_ea.1 (fun T h5 X W5 => ?_)
  have f20 := f19.same W5
  have K21 : Keep h0 h5 [ea, eb, ec] := K17.wr W5 (Or.inl (List.mem_of_getElem? (i := 0) rfl))
  have f22 := (f18.wr W5)
  have f23 := (((((N_ea.2.2.1.other W1 (Or.inr (slot_ne (Or.inl (wd_115 hw)) (Or.inl (wd_151 hw)) (by decide) (t := (.object "java/lang/Object")) (t' := (.object "java/util/TreeMap$Entry")) (by decide) (by decide)))).other W2 (Or.inl ne_ea_eb)).other W3 (Or.inl ne_ea_ec)).other W4 (Or.inl ne_ea_eb)).other W5 (Or.inr (slot_ne (Or.inl (wd_115 hw)) (Or.inl (wd_119 hw)) (by decide) (t := (.object "java/lang/Object")) (t' := (.object "java/util/TreeMap$Entry")) (by decide) (by decide))))
  have f24 := (((((N_ea.2.2.2.1.other W1 (Or.inr (slot_ne (Or.inl (wd_117 hw)) (Or.inl (wd_151 hw)) (by decide) (t := (.object "java/lang/Object")) (t' := (.object "java/util/TreeMap$Entry")) (by decide) (by decide)))).other W2 (Or.inl ne_ea_eb)).other W3 (Or.inl ne_ea_ec)).other W4 (Or.inl ne_ea_eb)).other W5 (Or.inr (slot_ne (Or.inl (wd_117 hw)) (Or.inl (wd_119 hw)) (by decide) (t := (.object "java/lang/Object")) (t' := (.object "java/util/TreeMap$Entry")) (by decide) (by decide))))
  have f25 := (((((N_ea.2.2.2.2.1.other W1 (Or.inr (slot_ne (Or.inl (wd_220 hw)) (Or.inl (wd_151 hw)) (by decide) (t := (.object "java/util/TreeMap$Entry")) (t' := (.object "java/util/TreeMap$Entry")) (by decide) (by decide)))).other W2 (Or.inl ne_ea_eb)).other W3 (Or.inl ne_ea_ec)).other W4 (Or.inl ne_ea_eb)).other W5 (Or.inr (slot_ne (Or.inl (wd_220 hw)) (Or.inl (wd_119 hw)) (by decide) (t := (.object "java/util/TreeMap$Entry")) (t' := (.object "java/util/TreeMap$Entry")) (by decide) (by decide))))
  have f26 := ((((f1.other W2 (Or.inl ne_ea_eb)).other W3 (Or.inl ne_ea_ec)).other W4 (Or.inl ne_ea_eb)).other W5 (Or.inr (slot_ne (Or.inl (wd_151 hw)) (Or.inl (wd_119 hw)) (by decide) (t := (.object "java/util/TreeMap$Entry")) (t' := (.object "java/util/TreeMap$Entry")) (by decide) (by decide))))
  have f27 := (((((N_ea.2.2.2.2.2.2.2.other W1 (Or.inr (slot_ne (Or.inl (wd_113 hw)) (Or.inl (wd_151 hw)) (by decide) (t := .boolean) (t' := (.object "java/util/TreeMap$Entry")) (by decide) (by decide)))).other W2 (Or.inl ne_ea_eb)).other W3 (Or.inl ne_ea_ec)).other W4 (Or.inl ne_ea_eb)).other W5 (Or.inr (slot_ne (Or.inl (wd_113 hw)) (Or.inl (wd_119 hw)) (by decide) (t := .boolean) (t' := (.object "java/util/TreeMap$Entry")) (by decide) (by decide))))
  have f28 := ((f14.wr W4).wr W5)
  have f29 := (((((N_eb.2.2.1.other W1 (Or.inl (Ne.symm ne_ea_eb))).other W2 (Or.inr (slot_ne (Or.inl (wd_115 hw)) (Or.inl (wd_119 hw)) (by decide) (t := (.object "java/lang/Object")) (t' := (.object "java/util/TreeMap$Entry")) (by decide) (by decide)))).other W3 (Or.inl ne_eb_ec)).other W4 (Or.inr (slot_ne (Or.inl (wd_115 hw)) (Or.inl (wd_220 hw)) (by decide) (t := (.object "java/lang/Object")) (t' := (.object "java/util/TreeMap$Entry")) (by decide) (by decide)))).other W5 (Or.inl (Ne.symm ne_ea_eb)))
  have f30 := (((((N_eb.2.2.2.1.other W1 (Or.inl (Ne.symm ne_ea_eb))).other W2 (Or.inr (slot_ne (Or.inl (wd_117 hw)) (Or.inl (wd_119 hw)) (by decide) (t := (.object "java/lang/Object")) (t' := (.object "java/util/TreeMap$Entry")) (by decide) (by decide)))).other W3 (Or.inl ne_eb_ec)).other W4 (Or.inr (slot_ne (Or.inl (wd_117 hw)) (Or.inl (wd_220 hw)) (by decide) (t := (.object "java/lang/Object")) (t' := (.object "java/util/TreeMap$Entry")) (by decide) (by decide)))).other W5 (Or.inl (Ne.symm ne_ea_eb)))
  have f31 := (f16.other W5 (Or.inl (Ne.symm ne_ea_eb)))
  have f32 := (((((N_eb.2.2.2.2.2.1.other W1 (Or.inl (Ne.symm ne_ea_eb))).other W2 (Or.inr (slot_ne (Or.inl (wd_151 hw)) (Or.inl (wd_119 hw)) (by decide) (t := (.object "java/util/TreeMap$Entry")) (t' := (.object "java/util/TreeMap$Entry")) (by decide) (by decide)))).other W3 (Or.inl ne_eb_ec)).other W4 (Or.inr (slot_ne (Or.inl (wd_151 hw)) (Or.inl (wd_220 hw)) (by decide) (t := (.object "java/util/TreeMap$Entry")) (t' := (.object "java/util/TreeMap$Entry")) (by decide) (by decide)))).other W5 (Or.inl (Ne.symm ne_ea_eb)))
  have f33 := (((f7.other W3 (Or.inl ne_eb_ec)).other W4 (Or.inr (slot_ne (Or.inl (wd_119 hw)) (Or.inl (wd_220 hw)) (by decide) (t := (.object "java/util/TreeMap$Entry")) (t' := (.object "java/util/TreeMap$Entry")) (by decide) (by decide)))).other W5 (Or.inl (Ne.symm ne_ea_eb)))
  have f34 := (((((N_eb.2.2.2.2.2.2.2.other W1 (Or.inl (Ne.symm ne_ea_eb))).other W2 (Or.inr (slot_ne (Or.inl (wd_113 hw)) (Or.inl (wd_119 hw)) (by decide) (t := .boolean) (t' := (.object "java/util/TreeMap$Entry")) (by decide) (by decide)))).other W3 (Or.inl ne_eb_ec)).other W4 (Or.inr (slot_ne (Or.inl (wd_113 hw)) (Or.inl (wd_220 hw)) (by decide) (t := .boolean) (t' := (.object "java/util/TreeMap$Entry")) (by decide) (by decide)))).other W5 (Or.inl (Ne.symm ne_ea_eb)))
  have f35 := (((f11.wr W3).wr W4).wr W5)
  have f36 := (((((N_ec.2.2.1.other W1 (Or.inl (Ne.symm ne_ea_ec))).other W2 (Or.inl (Ne.symm ne_eb_ec))).other W3 (Or.inr (slot_ne (Or.inl (wd_115 hw)) (Or.inl (wd_220 hw)) (by decide) (t := (.object "java/lang/Object")) (t' := (.object "java/util/TreeMap$Entry")) (by decide) (by decide)))).other W4 (Or.inl (Ne.symm ne_eb_ec))).other W5 (Or.inl (Ne.symm ne_ea_ec)))
  have f37 := (((((N_ec.2.2.2.1.other W1 (Or.inl (Ne.symm ne_ea_ec))).other W2 (Or.inl (Ne.symm ne_eb_ec))).other W3 (Or.inr (slot_ne (Or.inl (wd_117 hw)) (Or.inl (wd_220 hw)) (by decide) (t := (.object "java/lang/Object")) (t' := (.object "java/util/TreeMap$Entry")) (by decide) (by decide)))).other W4 (Or.inl (Ne.symm ne_eb_ec))).other W5 (Or.inl (Ne.symm ne_ea_ec)))
  have f38 := ((f12.other W4 (Or.inl (Ne.symm ne_eb_ec))).other W5 (Or.inl (Ne.symm ne_ea_ec)))
  have f39 := (((((N_ec.2.2.2.2.2.1.other W1 (Or.inl (Ne.symm ne_ea_ec))).other W2 (Or.inl (Ne.symm ne_eb_ec))).other W3 (Or.inr (slot_ne (Or.inl (wd_151 hw)) (Or.inl (wd_220 hw)) (by decide) (t := (.object "java/util/TreeMap$Entry")) (t' := (.object "java/util/TreeMap$Entry")) (by decide) (by decide)))).other W4 (Or.inl (Ne.symm ne_eb_ec))).other W5 (Or.inl (Ne.symm ne_ea_ec)))
  have f40 := (((((N_ec.2.2.2.2.2.2.1.other W1 (Or.inl (Ne.symm ne_ea_ec))).other W2 (Or.inl (Ne.symm ne_eb_ec))).other W3 (Or.inr (slot_ne (Or.inl (wd_119 hw)) (Or.inl (wd_220 hw)) (by decide) (t := (.object "java/util/TreeMap$Entry")) (t' := (.object "java/util/TreeMap$Entry")) (by decide) (by decide)))).other W4 (Or.inl (Ne.symm ne_eb_ec))).other W5 (Or.inl (Ne.symm ne_ea_ec)))
  have f41 := (((((N_ec.2.2.2.2.2.2.2.other W1 (Or.inl (Ne.symm ne_ea_ec))).other W2 (Or.inl (Ne.symm ne_eb_ec))).other W3 (Or.inr (slot_ne (Or.inl (wd_113 hw)) (Or.inl (wd_220 hw)) (by decide) (t := .boolean) (t' := (.object "java/util/TreeMap$Entry")) (by decide) (by decide)))).other W4 (Or.inl (Ne.symm ne_eb_ec))).other W5 (Or.inl (Ne.symm ne_ea_ec)))
  exact w_retV X k2729_81_95 ⟨rfl, ⟨N_ea.1, f22, f23, f24, f25, f26, f20, f27⟩, ⟨N_eb.1, f28, f29, f30, f31, f32, f33, f34⟩, ⟨N_ec.1, f35, f36, f37, f38, f39, f40, f41⟩, K21⟩ (by decide) (by decide)
theorem m_rr1 (hw : own_hw a0 Z) {h0 : Heap} {ea eb ec tm : Addr} {ka va ra kb vb lb pb kc vc lc pc : Value} {ca cb cc : Int32} (N_ea : own_N Z n0 h0 ea ka va (.ref eb) ra (.ref ec) ca) (N_eb : own_N Z n0 h0 eb kb vb lb .null pb cb) (N_ec : own_N Z n0 h0 ec kc vc lc (.ref ea) pc cc) (E_tm : Exa Z h0 tm "java/util/TreeMap") (ne_ea_eb : ea ≠ eb) (ne_ea_ec : ea ≠ ec) (ne_eb_ec : eb ≠ ec) :
    Does l Z n0 ⟨"java/util/TreeMap", "rotateRight", "(Ljava/util/TreeMap$Entry;)V"⟩ jdk_2729_method_82_code 3 none [] { frames := 0, cells := 0, slots := 0, locals := 0 } #[(.ref tm), (.ref ea)] h0 (fun v h => v = none ∧ own_N Z n0 h ea ka va .null ra (.ref eb) ca ∧ own_N Z n0 h eb kb vb lb (.ref ea) (.ref ec) cb ∧ own_N Z n0 h ec kc vc lc (.ref eb) pc cc ∧ Keep h0 h [ea, eb, ec]) := by
  refine Does.start (plainFor_of_name pn_2) ?_
  intro p e s m below meth c T X
  replace X : Sd _ _ _ _ _ "java/util/TreeMap" "rotateRight" _ _ _ _ _ _ _ _ _ _ _ _ _ _ _ _ := X
  refine Wp.cast (g' := mkF m 0 #[.val (.ref tm), .val (.ref ea), .unset] []) (by first | (simp [entryFrame, mkF, argsToLocals, Value.category, maxLocals]; done) | rfl) ?_
  refine w_aloadN X k2729_82_0 rfl (rfl) ?_
  refine w_ifnullF X k2729_82_1 ?_
  refine w_aloadN X k2729_82_4 rfl (rfl) ?_
  refine w_getF X k2729_82_5 (host := "") (Or.inl (wd_219 hw)) Via.refl N_ea.2.2.2.2.1 (fun T X => ?_)
  refine w_astoreN X #[.val (.ref tm), .val (.ref ea), .val (.ref eb)] k2729_82_8 (rfl) rfl ?_
  refine w_aloadN X k2729_82_9 rfl (rfl) ?_
  refine w_aloadN X k2729_82_10 rfl (rfl) ?_
  refine w_getF X k2729_82_11 (host := "") (Or.inl (wd_150 hw)) Via.refl N_eb.2.2.2.2.2.1 (fun T X => ?_)
  refine w_putF X k2729_82_14 (host := "") (Or.inl (wd_219 hw)) Via.refl N_ea.2.2.2.2.1 N_ea.2.1 (Or.inl (wd_220 hw)) (wd_105 hw) (ty := (.object "java/util/TreeMap$Entry")) (by decide) rfl rfl N_ea.1 (fun T h1 X W1 => ?_)
  have f1 := N_ea.2.2.2.2.1.same W1
  have K2 : Keep h0 h1 [ea, eb, ec] := (Keep.refl h0 [ea, eb, ec]).wr W1 (Or.inl (List.mem_of_getElem? (i := 0) rfl))
  refine w_aloadN X k2729_82_17 rfl (rfl) ?_
  have f3 := (N_eb.2.2.2.2.2.1.other W1 (Or.inl (Ne.symm ne_ea_eb)))
  refine w_getF X k2729_82_18 (host := "") (Or.inl (wd_150 hw)) Via.refl f3 (fun T X => ?_)
  refine w_ifnullT X k2729_82_21 ?_
  refine w_aloadN X k2729_82_32 rfl (rfl) ?_
  refine w_aloadN X k2729_82_33 rfl (rfl) ?_
  have f4 := (N_ea.2.2.2.2.2.2.1.other W1 (Or.inr (slot_ne (Or.inl (wd_119 hw)) (Or.inl (wd_220 hw)) (by decide) (t := (.object "java/util/TreeMap$Entry")) (t' := (.object "java/util/TreeMap$Entry")) (by decide) (by decide))))
  refine w_getF X k2729_82_34 (host := "") (Or.inl (wd_163 hw)) Via.refl f4 (fun T X => ?_)
  have f5 := (N_eb.2.1.wr W1)
  have f6 := (N_eb.2.2.2.2.2.2.1.other W1 (Or.inl (Ne.symm ne_ea_eb)))
  refine w_putF X k2729_82_37 (host := "") (Or.inl (wd_163 hw)) Via.refl f6 f5 (Or.inl (wd_119 hw)) (wd_105 hw) (ty := (.object "java/util/TreeMap$Entry")) (by decide) rfl rfl N_eb.1 (fun T h2 X W2 => ?_)
  have f7 := f6.same W2
  have K8 : Keep h0 h2 [ea, eb, ec] := K2.wr W2 (Or.inl (List.mem_of_getElem? (i := 1) rfl))
  refine w_aloadN X k2729_82_40 rfl (rfl) ?_
  have f9 := (f4.other W2 (Or.inl ne_ea_eb))
  refine w_getF X k2729_82_41 (host := "") (Or.inl (wd_163 hw)) Via.refl f9 (fun T X => ?_)
  refine w_ifnonnullT X k2729_82_44 ?_
  refine w_aloadN X k2729_82_55 rfl (rfl) ?_
  refine w_getF X k2729_82_56 (host := "") (Or.inl (wd_163 hw)) Via.refl f9 (fun T X => ?_)
  have f10 := ((N_ec.2.2.2.2.2.1.other W1 (Or.inl (Ne.symm ne_ea_ec))).other W2 (Or.inl (Ne.symm ne_eb_ec)))
  refine w_getF X k2729_82_59 (host := "") (Or.inl (wd_150 hw)) Via.refl f10 (fun T X => ?_)
  refine w_aloadN X k2729_82_62 rfl (rfl) ?_
  refine w_acmpne X (rfl) (rfl) k2729_82_63 (fun hc => absurd rfl hc) (fun _ => ?_)
  refine w_aloadN X k2729_82_66 rfl (rfl) ?_
  refine w_getF X k2729_82_67 (host := "") (Or.inl (wd_163 hw)) Via.refl f9 (fun T X => ?_)
  refine w_aloadN X k2729_82_70 rfl (rfl) ?_
  have f11 := ((N_ec.2.1.wr W1).wr W2)
  refine w_putF X k2729_82_71 (host := "") (Or.inl (wd_150 hw)) Via.refl f10 f11 (Or.inl (wd_151 hw)) (wd_105 hw) (ty := (.object "java/util/TreeMap$Entry")) (by decide) rfl rfl N_ec.1 (fun T h3 X W3 => ?_)
  have f12 := f10.same W3
  have K13 : Keep h0 h3 [ea, eb, ec] := K8.wr W3 (Or.inl (List.mem_of_getElem? (i := 2) rfl))
  refine w_goto X k2729_82_74 ?_
  refine w_aloadN X k2729_82_85 rfl (rfl) ?_
  refine w_aloadN X k2729_82_86 rfl (rfl) ?_
  have f14 := ((f5.wr W2).wr W3)
  have f15 := ((f3.other W2 (Or.inr (slot_ne (Or.inl (wd_151 hw)) (Or.inl (wd_119 hw)) (by decide) (t := (.object "java/util/TreeMap$Entry")) (t' := (.object "java/util/TreeMap$Entry")) (by decide) (by decide)))).other W3 (Or.inl ne_eb_ec))
  refine w_putF X k2729_82_87 (host := "") (Or.inl (wd_150 hw)) Via.refl f15 f14 (Or.inl (wd_151 hw)) (wd_105 hw) (ty := (.object "java/util/TreeMap$Entry")) (by decide) rfl rfl N_eb.1 (fun T h4 X W4 => ?_)
  have f16 := f15.same W4
  have K17 : Keep h0 h4 [ea, eb, ec] := K13.wr W4 (Or.inl (List.mem_of_getElem? (i := 1) rfl))
  refine w_aloadN X k2729_82_90 rfl (rfl) ?_
  refine w_aloadN X k2729_82_91 rfl (rfl) ?_
  have f18 := ((((N_ea.2.1.wr W1).wr W2).wr W3).wr W4)
  have f19 := ((f9.other W3 (Or.inl ne_ea_ec)).other W4 (Or.inl ne_ea_eb))
  refine w_putF X k2729_82_92 (host := "") (Or.inl (wd_163 hw)) Via.refl f19 f18 (Or.inl (wd_119 hw)) (wd_105 hw) (ty := (.object "java/util/TreeMap$Entry")) (by decide) rfl rfl N_ea.1 (fun T h5 X W5 => ?_)
  have f20 := f19.same W5
  have K21 : Keep h0 h5 [ea, eb, ec] := K17.wr W5 (Or.inl (List.mem_of_getElem? (i := 0) rfl))
  have f22 := (f18.wr W5)
  have f23 := (((((N_ea.2.2.1.other W1 (Or.inr (slot_ne (Or.inl (wd_115 hw)) (Or.inl (wd_220 hw)) (by decide) (t := (.object "java/lang/Object")) (t' := (.object "java/util/TreeMap$Entry")) (by decide) (by decide)))).other W2 (Or.inl ne_ea_eb)).other W3 (Or.inl ne_ea_ec)).other W4 (Or.inl ne_ea_eb)).other W5 (Or.inr (slot_ne (Or.inl (wd_115 hw)) (Or.inl (wd_119 hw)) (by decide) (t := (.object "java/lang/Object")) (t' := (.object "java/util/TreeMap$Entry")) (by decide) (by decide))))
  have f24 := (((((N_ea.2.2.2.1.other W1 (Or.inr (slot_ne (Or.inl (wd_117 hw)) (Or.inl (wd_220 hw)) (by decide) (t := (.object "java/lang/Object")) (t' := (.object "java/util/TreeMap$Entry")) (by decide) (by decide)))).other W2 (Or.inl ne_ea_eb)).other W3 (Or.inl ne_ea_ec)).other W4 (Or.inl ne_ea_eb)).other W5 (Or.inr (slot_ne (Or.inl (wd_117 hw)) (Or.inl (wd_119 hw)) (by decide) (t := (.object "java/lang/Object")) (t' := (.object "java/util/TreeMap$Entry")) (by decide) (by decide))))
  have f25 := ((((f1.other W2 (Or.inl ne_ea_eb)).other W3 (Or.inl ne_ea_ec)).other W4 (Or.inl ne_ea_eb)).other W5 (Or.inr (slot_ne (Or.inl (wd_220 hw)) (Or.inl (wd_119 hw)) (by decide) (t := (.object "java/util/TreeMap$Entry")) (t' := (.object "java/util/TreeMap$Entry")) (by decide) (by decide))))
  have f26 := (((((N_ea.2.2.2.2.2.1.other W1 (Or.inr (slot_ne (Or.inl (wd_151 hw)) (Or.inl (wd_220 hw)) (by decide) (t := (.object "java/util/TreeMap$Entry")) (t' := (.object "java/util/TreeMap$Entry")) (by decide) (by decide)))).other W2 (Or.inl ne_ea_eb)).other W3 (Or.inl ne_ea_ec)).other W4 (Or.inl ne_ea_eb)).other W5 (Or.inr (slot_ne (Or.inl (wd_151 hw)) (Or.inl (wd_119 hw)) (by decide) (t := (.object "java/util/TreeMap$Entry")) (t' := (.object "java/util/TreeMap$Entry")) (by decide) (by decide))))
  have f27 := (((((N_ea.2.2.2.2.2.2.2.other W1 (Or.inr (slot_ne (Or.inl (wd_113 hw)) (Or.inl (wd_220 hw)) (by decide) (t := .boolean) (t' := (.object "java/util/TreeMap$Entry")) (by decide) (by decide)))).other W2 (Or.inl ne_ea_eb)).other W3 (Or.inl ne_ea_ec)).other W4 (Or.inl ne_ea_eb)).other W5 (Or.inr (slot_ne (Or.inl (wd_113 hw)) (Or.inl (wd_119 hw)) (by decide) (t := .boolean) (t' := (.object "java/util/TreeMap$Entry")) (by decide) (by decide))))
  have f28 := ((f14.wr W4).wr W5)
  have f29 := (((((N_eb.2.2.1.other W1 (Or.inl (Ne.symm ne_ea_eb))).other W2 (Or.inr (slot_ne (Or.inl (wd_115 hw)) (Or.inl (wd_119 hw)) (by decide) (t := (.object "java/lang/Object")) (t' := (.object "java/util/TreeMap$Entry")) (by decide) (by decide)))).other W3 (Or.inl ne_eb_ec)).other W4 (Or.inr (slot_ne (Or.inl (wd_115 hw)) (Or.inl (wd_151 hw)) (by decide) (t := (.object "java/lang/Object")) (t' := (.object "java/util/TreeMap$Entry")) (by decide) (by decide)))).other W5 (Or.inl (Ne.symm ne_ea_eb)))
  have f30 := (((((N_eb.2.2.2.1.other W1 (Or.inl (Ne.symm ne_ea_eb))).other W2 (Or.inr (slot_ne (Or.inl (wd_117 hw)) (Or.inl (wd_119 hw)) (by decide) (t := (.object "java/lang/Object")) (t' := (.object "java/util/TreeMap$Entry")) (by decide) (by decide)))).other W3 (Or.inl ne_eb_ec)).other W4 (Or.inr (slot_ne (Or.inl (wd_117 hw)) (Or.inl (wd_151 hw)) (by decide) (t := (.object "java/lang/Object")) (t' := (.object "java/util/TreeMap$Entry")) (by decide) (by decide)))).other W5 (Or.inl (Ne.symm ne_ea_eb)))
  have f31 := (((((N_eb.2.2.2.2.1.other W1 (Or.inl (Ne.symm ne_ea_eb))).other W2 (Or.inr (slot_ne (Or.inl (wd_220 hw)) (Or.inl (wd_119 hw)) (by decide) (t := (.object "java/util/TreeMap$Entry")) (t' := (.object "java/util/TreeMap$Entry")) (by decide) (by decide)))).other W3 (Or.inl ne_eb_ec)).other W4 (Or.inr (slot_ne (Or.inl (wd_220 hw)) (Or.inl (wd_151 hw)) (by decide) (t := (.object "java/util/TreeMap$Entry")) (t' := (.object "java/util/TreeMap$Entry")) (by decide) (by decide)))).other W5 (Or.inl (Ne.symm ne_ea_eb)))
  have f32 := (f16.other W5 (Or.inl (Ne.symm ne_ea_eb)))
  have f33 := (((f7.other W3 (Or.inl ne_eb_ec)).other W4 (Or.inr (slot_ne (Or.inl (wd_119 hw)) (Or.inl (wd_151 hw)) (by decide) (t := (.object "java/util/TreeMap$Entry")) (t' := (.object "java/util/TreeMap$Entry")) (by decide) (by decide)))).other W5 (Or.inl (Ne.symm ne_ea_eb)))
  have f34 := (((((N_eb.2.2.2.2.2.2.2.other W1 (Or.inl (Ne.symm ne_ea_eb))).other W2 (Or.inr (slot_ne (Or.inl (wd_113 hw)) (Or.inl (wd_119 hw)) (by decide) (t := .boolean) (t' := (.object "java/util/TreeMap$Entry")) (by decide) (by decide)))).other W3 (Or.inl ne_eb_ec)).other W4 (Or.inr (slot_ne (Or.inl (wd_113 hw)) (Or.inl (wd_151 hw)) (by decide) (t := .boolean) (t' := (.object "java/util/TreeMap$Entry")) (by decide) (by decide)))).other W5 (Or.inl (Ne.symm ne_ea_eb)))
  have f35 := (((f11.wr W3).wr W4).wr W5)
  have f36 := (((((N_ec.2.2.1.other W1 (Or.inl (Ne.symm ne_ea_ec))).other W2 (Or.inl (Ne.symm ne_eb_ec))).other W3 (Or.inr (slot_ne (Or.inl (wd_115 hw)) (Or.inl (wd_151 hw)) (by decide) (t := (.object "java/lang/Object")) (t' := (.object "java/util/TreeMap$Entry")) (by decide) (by decide)))).other W4 (Or.inl (Ne.symm ne_eb_ec))).other W5 (Or.inl (Ne.symm ne_ea_ec)))
  have f37 := (((((N_ec.2.2.2.1.other W1 (Or.inl (Ne.symm ne_ea_ec))).other W2 (Or.inl (Ne.symm ne_eb_ec))).other W3 (Or.inr (slot_ne (Or.inl (wd_117 hw)) (Or.inl (wd_151 hw)) (by decide) (t := (.object "java/lang/Object")) (t' := (.object "java/util/TreeMap$Entry")) (by decide) (by decide)))).other W4 (Or.inl (Ne.symm ne_eb_ec))).other W5 (Or.inl (Ne.symm ne_ea_ec)))
  have f38 := (((((N_ec.2.2.2.2.1.other W1 (Or.inl (Ne.symm ne_ea_ec))).other W2 (Or.inl (Ne.symm ne_eb_ec))).other W3 (Or.inr (slot_ne (Or.inl (wd_220 hw)) (Or.inl (wd_151 hw)) (by decide) (t := (.object "java/util/TreeMap$Entry")) (t' := (.object "java/util/TreeMap$Entry")) (by decide) (by decide)))).other W4 (Or.inl (Ne.symm ne_eb_ec))).other W5 (Or.inl (Ne.symm ne_ea_ec)))
  have f39 := ((f12.other W4 (Or.inl (Ne.symm ne_eb_ec))).other W5 (Or.inl (Ne.symm ne_ea_ec)))
  have f40 := (((((N_ec.2.2.2.2.2.2.1.other W1 (Or.inl (Ne.symm ne_ea_ec))).other W2 (Or.inl (Ne.symm ne_eb_ec))).other W3 (Or.inr (slot_ne (Or.inl (wd_119 hw)) (Or.inl (wd_151 hw)) (by decide) (t := (.object "java/util/TreeMap$Entry")) (t' := (.object "java/util/TreeMap$Entry")) (by decide) (by decide)))).other W4 (Or.inl (Ne.symm ne_eb_ec))).other W5 (Or.inl (Ne.symm ne_ea_ec)))
  have f41 := (((((N_ec.2.2.2.2.2.2.2.other W1 (Or.inl (Ne.symm ne_ea_ec))).other W2 (Or.inl (Ne.symm ne_eb_ec))).other W3 (Or.inr (slot_ne (Or.inl (wd_113 hw)) (Or.inl (wd_151 hw)) (by decide) (t := .boolean) (t' := (.object "java/util/TreeMap$Entry")) (by decide) (by decide)))).other W4 (Or.inl (Ne.symm ne_eb_ec))).other W5 (Or.inl (Ne.symm ne_ea_ec)))
  exact w_retV X k2729_82_95 ⟨rfl, ⟨N_ea.1, f22, f23, f24, f25, f26, f20, f27⟩, ⟨N_eb.1, f28, f29, f30, f31, f32, f33, f34⟩, ⟨N_ec.1, f35, f36, f37, f38, f39, f40, f41⟩, K21⟩ (by decide) (by decide)
theorem m_fxa (hw : own_hw a0 Z) {h0 : Heap} {ex er tm : Addr} {kx vx kr vr lr rr pr ev : Value} {cx sz mc : Int32} (N_ex : own_N Z n0 h0 ex kx vx .null .null (.ref er) cx) (N_er : own_N Z n0 h0 er kr vr lr rr pr (1 : Int32)) (M0 : own_M Z n0 h0 tm (.ref er) ev sz mc) (ne_ex_er : ex ≠ er) :
    Does l Z n0 ⟨"java/util/TreeMap", "fixAfterInsertion", "(Ljava/util/TreeMap$Entry;)V"⟩ jdk_2729_method_83_code 3 none [] { frames := 0, cells := 0, slots := 0, locals := 0 } #[(.ref tm), (.ref ex)] h0 (fun v h => v = none ∧ own_N Z n0 h ex kx vx .null .null (.ref er) (0 : Int32) ∧ own_N Z n0 h er kr vr lr rr pr (1 : Int32) ∧ own_M Z n0 h tm (.ref er) ev sz mc ∧ Keep h0 h [ex, er, tm]) := by
  refine Does.start (plainFor_of_name pn_2) ?_
  intro p e s m below meth c T X
  replace X : Sd _ _ _ _ _ "java/util/TreeMap" "fixAfterInsertion" _ _ _ _ _ _ _ _ _ _ _ _ _ _ _ _ := X
  refine Wp.cast (g' := mkF m 0 #[.val (.ref tm), .val (.ref ex), .unset] []) (by first | (simp [entryFrame, mkF, argsToLocals, Value.category, maxLocals]; done) | rfl) ?_
  refine w_aloadN X k2729_83_0 rfl (rfl) ?_
  refine w_iconst X (0 : Int32) k2729_83_1 rfl ?_
  refine w_putFN X k2729_83_2 (wd_162 hw) Via.refl N_ex.2.2.2.2.2.2.2 N_ex.2.1 (Or.inl (wd_113 hw)) (wd_105 hw) (ty := .boolean) (by decide) (.int (0 : Int32)) rfl (by decide) N_ex.1 (fun T h1 X W1 => ?_)
  have f1 := N_ex.2.2.2.2.2.2.2.same W1
  have K2 : Keep h0 h1 [ex, er, tm] := (Keep.refl h0 [ex, er, tm]).wr W1 (Or.inl (List.mem_of_getElem? (i := 0) rfl))
  refine w_aloadN X k2729_83_5 rfl (rfl) ?_
  refine w_ifnullF X k2729_83_6 ?_
  refine w_aloadN X k2729_83_9 rfl (rfl) ?_
  refine w_aloadN X k2729_83_10 rfl (rfl) ?_
  have f3 := (M0.2.1.wr W1)
  have f4 := (N_ex.2.1.wr W1)
  have f5 := (M0.2.2.1.other W1 (Or.inl (Exa.ne f3 f4 (by decide))))
  refine w_getF X k2729_83_11 (host := "") (Or.inl (wd_71 hw)) Via.refl f5 (fun T X => ?_)
  refine w_acmpeq X (rfl) (rfl) k2729_83_14 (fun hc => absurd hc (own_rne ne_ex_er)) (fun _ => ?_)
  refine w_aloadN X k2729_83_17 rfl (rfl) ?_
  have f6 := (N_ex.2.2.2.2.2.2.1.other W1 (Or.inr (slot_ne (Or.inl (wd_119 hw)) (Or.inl (wd_113 hw)) (by decide) (t := (.object "java/util/TreeMap$Entry")) (t' := .boolean) (by decide) (by decide))))
  refine w_getF X k2729_83_18 (host := "") (Or.inl (wd_163 hw)) Via.refl f6 (fun T X => ?_)
  have f7 := (N_er.2.2.2.2.2.2.2.other W1 (Or.inl (Ne.symm ne_ex_er)))
  refine w_getF X k2729_83_21 (host := "") (Or.inl (wd_162 hw)) Via.refl f7 (fun T X => ?_)
  refine w_ifne X k2729_83_24 (fun _ => ?_) (fun hc => absurd hc (by decide))
  refine w_aloadN X k2729_83_258 rfl (rfl) ?_
  refine w_getF X k2729_83_259 (host := "") (Or.inl (wd_71 hw)) Via.refl f5 (fun T X => ?_)
  refine w_iconst X (1 : Int32) k2729_83_262 rfl ?_
  have f8 := (N_er.2.1.wr W1)
  refine w_putFN X k2729_83_263 (wd_162 hw) Via.refl f7 f8 (Or.inl (wd_113 hw)) (wd_105 hw) (ty := .boolean) (by decide) (.int (1 : Int32)) rfl (by decide) N_er.1 (fun T h2 X W2 => ?_)
  have f9 := f7.same W2
  have K10 : Keep h0 h2 [ex, er, tm] := K2.wr W2 (Or.inl (List.mem_of_getElem? (i := 1) rfl))
  have f11 := (f4.wr W2)
  have f12 := ((N_ex.2.2.1.other W1 (Or.inr (slot_ne (Or.inl (wd_115 hw)) (Or.inl (wd_113 hw)) (by decide) (t := (.object "java/lang/Object")) (t' := .boolean) (by decide) (by decide)))).other W2 (Or.inl ne_ex_er))
  have f13 := ((N_ex.2.2.2.1.other W1 (Or.inr (slot_ne (Or.inl (wd_117 hw)) (Or.inl (wd_113 hw)) (by decide) (t := (.object "java/lang/Object")) (t' := .boolean) (by decide) (by decide)))).other W2 (Or.inl ne_ex_er))
  have f14 := ((N_ex.2.2.2.2.1.other W1 (Or.inr (slot_ne (Or.inl (wd_220 hw)) (Or.inl (wd_113 hw)) (by decide) (t := (.object "java/util/TreeMap$Entry")) (t' := .boolean) (by decide) (by decide)))).other W2 (Or.inl ne_ex_er))
  have f15 := ((N_ex.2.2.2.2.2.1.other W1 (Or.inr (slot_ne (Or.inl (wd_151 hw)) (Or.inl (wd_113 hw)) (by decide) (t := (.object "java/util/TreeMap$Entry")) (t' := .boolean) (by decide) (by decide)))).other W2 (Or.inl ne_ex_er))
  have f16 := (f6.other W2 (Or.inl ne_ex_er))
  have f17 := (f1.other W2 (Or.inl ne_ex_er))
  have f18 := (f8.wr W2)
  have f19 := ((N_er.2.2.1.other W1 (Or.inl (Ne.symm ne_ex_er))).other W2 (Or.inr (slot_ne (Or.inl (wd_115 hw)) (Or.inl (wd_113 hw)) (by decide) (t := (.object "java/lang/Object")) (t' := .boolean) (by decide) (by decide))))
  have f20 := ((N_er.2.2.2.1.other W1 (Or.inl (Ne.symm ne_ex_er))).other W2 (Or.inr (slot_ne (Or.inl (wd_117 hw)) (Or.inl (wd_113 hw)) (by decide) (t := (.object "java/lang/Object")) (t' := .boolean) (by decide) (by decide))))
  have f21 := ((N_er.2.2.2.2.1.other W1 (Or.inl (Ne.symm ne_ex_er))).other W2 (Or.inr (slot_ne (Or.inl (wd_220 hw)) (Or.inl (wd_113 hw)) (by decide) (t := (.object "java/util/TreeMap$Entry")) (t' := .boolean) (by decide) (by decide))))
  have f22 := ((N_er.2.2.2.2.2.1.other W1 (Or.inl (Ne.symm ne_ex_er))).other W2 (Or.inr (slot_ne (Or.inl (wd_151 hw)) (Or.inl (wd_113 hw)) (by decide) (t := (.object "java/util/TreeMap$Entry")) (t' := .boolean) (by decide) (by decide))))
  have f23 := ((N_er.2.2.2.2.2.2.1.other W1 (Or.inl (Ne.symm ne_ex_er))).other W2 (Or.inr (slot_ne (Or.inl (wd_119 hw)) (Or.inl (wd_113 hw)) (by decide) (t := (.object "java/util/TreeMap$Entry")) (t' := .boolean) (by decide) (by decide))))
  have f24 := (f3.wr W2)
  have f25 := (f5.other W2 (Or.inl (Exa.ne f24 f18 (by decide))))
  have f26 := ((M0.2.2.2.1.other W1 (Or.inl (Exa.ne f24 f11 (by decide)))).other W2 (Or.inl (Exa.ne f24 f18 (by decide))))
  have f27 := ((M0.2.2.2.2.1.other W1 (Or.inl (Exa.ne f24 f11 (by decide)))).other W2 (Or.inl (Exa.ne f24 f18 (by decide))))
  have f28 := ((M0.2.2.2.2.2.1.other W1 (Or.inl (Exa.ne f24 f11 (by decide)))).other W2 (Or.inl (Exa.ne f24 f18 (by decide))))
  have f29 := ((M0.2.2.2.2.2.2.other W1 (Or.inl (Exa.ne f24 f11 (by decide)))).other W2 (Or.inl (Exa.ne f24 f18 (by decide))))
  exact w_retV X k2729_83_266 ⟨rfl, ⟨N_ex.1, f11, f12, f13, f14, f15, f16, f17⟩, ⟨N_er.1, f18, f19, f20, f21, f22, f23, f9⟩, ⟨M0.1, f24, f25, f26, f27, f28, f29⟩, K10⟩ (by decide) (by decide)
theorem m_fxll (hw : own_hw a0 Z) {h0 : Heap} {ex el er tm : Addr} {kx vx kl vl kr vr ev : Value} {cx sz mc : Int32} (N_ex : own_N Z n0 h0 ex kx vx .null .null (.ref el) cx) (N_el : own_N Z n0 h0 el kl vl (.ref ex) .null (.ref er) (0 : Int32)) (N_er : own_N Z n0 h0 er kr vr (.ref el) .null .null (1 : Int32)) (M0 : own_M Z n0 h0 tm (.ref er) ev sz mc) (ne_ex_el : ex ≠ el) (ne_ex_er : ex ≠ er) (ne_el_er : el ≠ er) :
    Does l Z n0 ⟨"java/util/TreeMap", "fixAfterInsertion", "(Ljava/util/TreeMap$Entry;)V"⟩ jdk_2729_method_83_code 3 none [] { frames := 1, cells := 0, slots := 0, locals := 14 } #[(.ref tm), (.ref ex)] h0 (fun v h => v = none ∧ own_N Z n0 h ex kx vx .null .null (.ref el) (0 : Int32) ∧ own_N Z n0 h el kl vl (.ref ex) (.ref er) .null (1 : Int32) ∧ own_N Z n0 h er kr vr .null .null (.ref el) (0 : Int32) ∧ own_M Z n0 h tm (.ref el) ev sz mc ∧ Keep h0 h [ex, el, er, tm]) := by
  refine Does.start (plainFor_of_name pn_2) ?_
  intro p e s m below meth c T X
  replace X : Sd _ _ _ _ _ "java/util/TreeMap" "fixAfterInsertion" _ _ _ _ _ _ _ _ _ _ _ _ _ _ _ _ := X
  refine Wp.cast (g' := mkF m 0 #[.val (.ref tm), .val (.ref ex), .unset] []) (by first | (simp [entryFrame, mkF, argsToLocals, Value.category, maxLocals]; done) | rfl) ?_
  refine w_aloadN X k2729_83_0 rfl (rfl) ?_
  refine w_iconst X (0 : Int32) k2729_83_1 rfl ?_
  refine w_putFN X k2729_83_2 (wd_162 hw) Via.refl N_ex.2.2.2.2.2.2.2 N_ex.2.1 (Or.inl (wd_113 hw)) (wd_105 hw) (ty := .boolean) (by decide) (.int (0 : Int32)) rfl (by decide) N_ex.1 (fun T h1 X W1 => ?_)
  have f1 := N_ex.2.2.2.2.2.2.2.same W1
  have K2 : Keep h0 h1 [ex, el, er, tm] := (Keep.refl h0 [ex, el, er, tm]).wr W1 (Or.inl (List.mem_of_getElem? (i := 0) rfl))
  refine w_aloadN X k2729_83_5 rfl (rfl) ?_
  refine w_ifnullF X k2729_83_6 ?_
  refine w_aloadN X k2729_83_9 rfl (rfl) ?_
  refine w_aloadN X k2729_83_10 rfl (rfl) ?_
  have f3 := (M0.2.1.wr W1)
  have f4 := (N_ex.2.1.wr W1)
  have f5 := (M0.2.2.1.other W1 (Or.inl (Exa.ne f3 f4 (by decide))))
  refine w_getF X k2729_83_11 (host := "") (Or.inl (wd_71 hw)) Via.refl f5 (fun T X => ?_)
  refine w_acmpeq X (rfl) (rfl) k2729_83_14 (fun hc => absurd hc (own_rne ne_ex_er)) (fun _ => ?_)
  refine w_aloadN X k2729_83_17 rfl (rfl) ?_
  have f6 := (N_ex.2.2.2.2.2.2.1.other W1 (Or.inr (slot_ne (Or.inl (wd_119 hw)) (Or.inl (wd_113 hw)) (by decide) (t := (.object "java/util/TreeMap$Entry")) (t' := .boolean) (by decide) (by decide))))
  refine w_getF X k2729_83_18 (host := "") (Or.inl (wd_163 hw)) Via.refl f6 (fun T X => ?_)
  have f7 := (N_el.2.2.2.2.2.2.2.other W1 (Or.inl (Ne.symm ne_ex_el)))
  refine w_getF X k2729_83_21 (host := "") (Or.inl (wd_162 hw)) Via.refl f7 (fun T X => ?_)
  refine w_ifne X k2729_83_24 (fun hc => absurd rfl hc) (fun _ => ?_)
  refine w_aloadN X k2729_83_27 rfl (rfl) ?_
  refine w_callS X k2729_83_28 (wd_296 hw) (wd_297 hw) (wd_25 hw) (wd_298 hw) (by decide) (argsL := [(.ref ex)]) (S := []) (m_parentOf hw (pv := (.ref el)) rfl f6) pd_5 rfl rfl rfl (by decide) (leR rfl) (by decide) (by decide) (fun T h2 v2 L2 X q2 => ?_)
  obtain ⟨rfl, rfl⟩ := q2
  show Wp _ _ _ _ (T.setTop (mkF _ _ _ [(.ref el)]))
  refine w_aloadN X k2729_83_31 rfl (rfl) ?_
  refine w_callS X k2729_83_32 (wd_296 hw) (wd_297 hw) (wd_25 hw) (wd_298 hw) (by decide) (argsL := [(.ref ex)]) (S := [(.ref el)]) (m_parentOf hw (pv := (.ref el)) rfl f6) pd_5 rfl rfl rfl (by decide) (leR rfl) (by decide) (by decide) (fun T h3 v3 L3 X q3 => ?_)
  obtain ⟨rfl, rfl⟩ := q3
  show Wp _ _ _ _ (T.setTop (mkF _ _ _ [(.ref el), (.ref el)]))
  have f8 := (N_el.2.2.2.2.2.2.1.other W1 (Or.inl (Ne.symm ne_ex_el)))
  refine w_callS X k2729_83_35 (wd_296 hw) (wd_297 hw) (wd_25 hw) (wd_298 hw) (by decide) (argsL := [(.ref el)]) (S := [(.ref el)]) (m_parentOf hw (pv := (.ref er)) rfl f8) pd_5 rfl rfl rfl (by decide) (leR rfl) (by decide) (by decide) (fun T h4 v4 L4 X q4 => ?_)
  obtain ⟨rfl, rfl⟩ := q4
  show Wp _ _ _ _ (T.setTop (mkF _ _ _ [(.ref er), (.ref el)]))
  have f9 := (N_er.2.2.2.2.1.other W1 (Or.inl (Ne.symm ne_ex_er)))
  refine w_callS X k2729_83_38 (wd_299 hw) (wd_300 hw) (wd_25 hw) (wd_301 hw) (by decide) (argsL := [(.ref er)]) (S := [(.ref el)]) (m_leftOf hw (pv := (.ref el)) rfl f9) pd_5 rfl rfl rfl (by decide) (leR rfl) (by decide) (by decide) (fun T h5 v5 L5 X q5 => ?_)
  obtain ⟨rfl, rfl⟩ := q5
  show Wp _ _ _ _ (T.setTop (mkF _ _ _ [(.ref el), (.ref el)]))
  refine w_acmpne X (rfl) (rfl) k2729_83_41 (fun hc => absurd rfl hc) (fun _ => ?_)
  refine w_aloadN X k2729_83_44 rfl (rfl) ?_
  refine w_callS X k2729_83_45 (wd_296 hw) (wd_297 hw) (wd_25 hw) (wd_298 hw) (by decide) (argsL := [(.ref ex)]) (S := []) (m_parentOf hw (pv := (.ref el)) rfl f6) pd_5 rfl rfl rfl (by decide) (leR rfl) (by decide) (by decide) (fun T h6 v6 L6 X q6 => ?_)
  obtain ⟨rfl, rfl⟩ := q6
  show Wp _ _ _ _ (T.setTop (mkF _ _ _ [(.ref el)]))
  refine w_callS X k2729_83_48 (wd_296 hw) (wd_297 hw) (wd_25 hw) (wd_298 hw) (by decide) (argsL := [(.ref el)]) (S := []) (m_parentOf hw (pv := (.ref er)) rfl f8) pd_5 rfl rfl rfl (by decide) (leR rfl) (by decide) (by decide) (fun T h7 v7 L7 X q7 => ?_)
  obtain ⟨rfl, rfl⟩ := q7
  show Wp _ _ _ _ (T.setTop (mkF _ _ _ [(.ref er)]))
  have f10 := (N_er.2.2.2.2.2.1.other W1 (Or.inl (Ne.symm ne_ex_er)))
  refine w_callS X k2729_83_51 (wd_318 hw) (wd_319 hw) (wd_25 hw) (wd_320 hw) (by decide) (argsL := [(.ref er)]) (S := []) (m_rightOf hw (pv := .null) rfl f10) pd_5 rfl rfl rfl (by decide) (leR rfl) (by decide) (by decide) (fun T h8 v8 L8 X q8 => ?_)
  obtain ⟨rfl, rfl⟩ := q8
  show Wp _ _ _ _ (T.setTop (mkF _ _ _ [.null]))
  refine w_astoreN X #[.val (.ref tm), .val (.ref ex), .val .null] k2729_83_54 (rfl) rfl ?_
  refine w_aloadN X k2729_83_55 rfl (rfl) ?_
  refine w_callS X k2729_83_56 (wd_302 hw) (wd_303 hw) (wd_25 hw) (wd_304 hw) (by decide) (argsL := [.null]) (S := []) (m_con hw) pd_6 rfl rfl rfl (by decide) (leR rfl) (by decide) (by decide) (fun T h9 v9 L9 X q9 => ?_)
  obtain ⟨rfl, rfl⟩ := q9
  show Wp _ _ _ _ (T.setTop (mkF _ _ _ [(.int (1 : Int32))]))
  refine w_ifne X k2729_83_59 (fun _ => ?_) (fun hc => absurd hc (by decide))
  refine w_aloadN X k2729_83_97 rfl (rfl) ?_
  refine w_aloadN X k2729_83_98 rfl (rfl) ?_
  refine w_callS X k2729_83_99 (wd_296 hw) (wd_297 hw) (wd_25 hw) (wd_298 hw) (by decide) (argsL := [(.ref ex)]) (S := [(.ref ex)]) (m_parentOf hw (pv := (.ref el)) rfl f6) pd_5 rfl rfl rfl (by decide) (leR rfl) (by decide) (by decide) (fun T h10 v10 L10 X q10 => ?_)
  obtain ⟨rfl, rfl⟩ := q10
  show Wp _ _ _ _ (T.setTop (mkF _ _ _ [(.ref el), (.ref ex)]))
  have f11 := (N_el.2.2.2.2.2.1.other W1 (Or.inl (Ne.symm ne_ex_el)))
  refine w_callS X k2729_83_102 (wd_318 hw) (wd_319 hw) (wd_25 hw) (wd_320 hw) (by decide) (argsL := [(.ref el)]) (S := [(.ref ex)]) (m_rightOf hw (pv := .null) rfl f11) pd_5 rfl rfl rfl (by decide) (leR rfl) (by decide) (by decide) (fun T h11 v11 L11 X q11 => ?_)
  obtain ⟨rfl, rfl⟩ := q11
  show Wp _ _ _ _ (T.setTop (mkF _ _ _ [.null, (.ref ex)]))
  refine w_acmpne X (rfl) (rfl) k2729_83_105 (fun _ => ?_) (fun hc => absurd hc (by nofun))
  refine w_aloadN X k2729_83_118 rfl (rfl) ?_
  refine w_callS X k2729_83_119 (wd_296 hw) (wd_297 hw) (wd_25 hw) (wd_298 hw) (by decide) (argsL := [(.ref ex)]) (S := []) (m_parentOf hw (pv := (.ref el)) rfl f6) pd_5 rfl rfl rfl (by decide) (leR rfl) (by decide) (by decide) (fun T h12 v12 L12 X q12 => ?_)
  obtain ⟨rfl, rfl⟩ := q12
  show Wp _ _ _ _ (T.setTop (mkF _ _ _ [(.ref el)]))
  refine w_iconst X (1 : Int32) k2729_83_122 rfl ?_
  have f12 := (N_el.2.1.wr W1)
  have f13 := (N_el.2.2.1.other W1 (Or.inl (Ne.symm ne_ex_el)))
  have f14 := (N_el.2.2.2.1.other W1 (Or.inl (Ne.symm ne_ex_el)))
  have f15 := (N_el.2.2.2.2.1.other W1 (Or.inl (Ne.symm ne_ex_el)))
  have nq16 : own_N Z n0 h1 el kl vl (.ref ex) .null (.ref er) (0 : Int32) := ⟨N_el.1, f12, f13, f14, f15, f11, f8, f7⟩
  refine w_callS X k2729_83_123 (wd_305 hw) (wd_306 hw) (wd_25 hw) (wd_307 hw) (by decide) (argsL := [(.ref el), (.int (1 : Int32))]) (S := []) (m_sc1 hw nq16) pd_7 rfl rfl rfl (by decide) (leR rfl) (by decide) (by decide) (fun T h13 v13 L13 X q13 => ?_)
  obtain ⟨rfl, N_13, Kc13⟩ := q13
  have K17 : Keep h0 h13 [ex, el, er, tm] := K2.trans Kc13 (fun x hx => by cases List.mem_singleton.mp hx; exact (Or.inl (List.mem_of_getElem? (i := 1) rfl)))
  show Wp _ _ _ _ (T.setTop (mkF _ _ _ []))
  refine w_aloadN X k2729_83_126 rfl (rfl) ?_
  have f18 := (f6.keep Kc13 (ni1 ne_ex_el))
  refine w_callS X k2729_83_127 (wd_296 hw) (wd_297 hw) (wd_25 hw) (wd_298 hw) (by decide) (argsL := [(.ref ex)]) (S := []) (m_parentOf hw (pv := (.ref el)) rfl f18) pd_5 rfl rfl rfl (by decide) (leR rfl) (by decide) (by decide) (fun T h14 v14 L14 X q14 => ?_)
  obtain ⟨rfl, rfl⟩ := q14
  show Wp _ _ _ _ (T.setTop (mkF _ _ _ [(.ref el)]))
  refine w_callS X k2729_83_130 (wd_296 hw) (wd_297 hw) (wd_25 hw) (wd_298 hw) (by decide) (argsL := [(.ref el)]) (S := []) (m_parentOf hw (pv := (.ref er)) rfl N_13.2.2.2.2.2.2.1) pd_5 rfl rfl rfl (by decide) (leR rfl) (by decide) (by decide) (fun T h15 v15 L15 X q15 => ?_)
  obtain ⟨rfl, rfl⟩ := q15
  show Wp _ _ _ _ (T.setTop (mkF _ _ _ [(.ref er)]))
  refine w_iconst X (0 : Int32) k2729_83_133 rfl ?_
  have f19 := ((N_er.2.1.wr W1).keep Kc13)
  have f20 := ((N_er.2.2.1.other W1 (Or.inl (Ne.symm ne_ex_er))).keep Kc13 (ni1 (Ne.symm ne_el_er)))
  have f21 := ((N_er.2.2.2.1.other W1 (Or.inl (Ne.symm ne_ex_er))).keep Kc13 (ni1 (Ne.symm ne_el_er)))
  have f22 := (f9.keep Kc13 (ni1 (Ne.symm ne_el_er)))
  have f23 := (f10.keep Kc13 (ni1 (Ne.symm ne_el_er)))
  have f24 := ((N_er.2.2.2.2.2.2.1.other W1 (Or.inl (Ne.symm ne_ex_er))).keep Kc13 (ni1 (Ne.symm ne_el_er)))
  have f25 := ((N_er.2.2.2.2.2.2.2.other W1 (Or.inl (Ne.symm ne_ex_er))).keep Kc13 (ni1 (Ne.symm ne_el_er)))
  have nq26 : own_N Z n0 h13 er kr vr (.ref el) .null .null (1 : Int32) := ⟨N_er.1, f19, f20, f21, f22, f23, f24, f25⟩
  refine w_callS X k2729_83_134 (wd_305 hw) (wd_306 hw) (wd_25 hw) (wd_307 hw) (by decide) (argsL := [(.ref er), (.int (0 : Int32))]) (S := []) (m_sc0 hw nq26) pd_7 rfl rfl rfl (by decide) (leR rfl) (by decide) (by decide) (fun T h16 v16 L16 X q16 => ?_)
  obtain ⟨rfl, N_16, Kc16⟩ := q16
  have K27 : Keep h0 h16 [ex, el, er, tm] := K17.trans Kc16 (fun x hx => by cases List.mem_singleton.mp hx; exact (Or.inl (List.mem_of_getElem? (i := 2) rfl)))
  show Wp _ _ _ _ (T.setTop (mkF _ _ _ []))
  refine w_aloadN X k2729_83_137 rfl (rfl) ?_
  refine w_aloadN X k2729_83_138 rfl (rfl) ?_
  have f28 := (f18.keep Kc16 (ni1 ne_ex_er))
  refine w_callS X k2729_83_139 (wd_296 hw) (wd_297 hw) (wd_25 hw) (wd_298 hw) (by decide) (argsL := [(.ref ex)]) (S := [(.ref tm)]) (m_parentOf hw (pv := (.ref el)) rfl f28) pd_5 rfl rfl rfl (by decide) (leR rfl) (by decide) (by decide) (fun T h17 v17 L17 X q17 => ?_)
  obtain ⟨rfl, rfl⟩ := q17
  show Wp _ _ _ _ (T.setTop (mkF _ _ _ [(.ref el), (.ref tm)]))
  have f29 := (N_13.2.2.2.2.2.2.1.keep Kc16 (ni1 ne_el_er))
  refine w_callS X k2729_83_142 (wd_296 hw) (wd_297 hw) (wd_25 hw) (wd_298 hw) (by decide) (argsL := [(.ref el)]) (S := [(.ref tm)]) (m_parentOf hw (pv := (.ref er)) rfl f29) pd_5 rfl rfl rfl (by decide) (leR rfl) (by decide) (by decide) (fun T h18 v18 L18 X q18 => ?_)
  obtain ⟨rfl, rfl⟩ := q18
  show Wp _ _ _ _ (T.setTop (mkF _ _ _ [(.ref er), (.ref tm)]))
  have nq30 : own_N Z n0 h16 er kr vr (.ref el) .null .null (0 : Int32) := ⟨N_16.1, N_16.2.1, N_16.2.2.1, N_16.2.2.2.1, N_16.2.2.2.2.1, N_16.2.2.2.2.2.1, N_16.2.2.2.2.2.2.1, N_16.2.2.2.2.2.2.2⟩
  have f31 := (N_13.2.1.keep Kc16)
  have f32 := (N_13.2.2.1.keep Kc16 (ni1 ne_el_er))
  have f33 := (N_13.2.2.2.1.keep Kc16 (ni1 ne_el_er))
  have f34 := (N_13.2.2.2.2.1.keep Kc16 (ni1 ne_el_er))
  have f35 := (N_13.2.2.2.2.2.1.keep Kc16 (ni1 ne_el_er))
  have f36 := (N_13.2.2.2.2.2.2.2.keep Kc16 (ni1 ne_el_er))
  have nq37 : own_N Z n0 h16 el kl vl (.ref ex) .null (.ref er) (1 : Int32) := ⟨N_13.1, f31, f32, f33, f34, f35, f29, f36⟩
  have f38 := ((f3.keep Kc13).keep Kc16)
  have f39 := ((f5.keep Kc13 (ni1 (Exa.ne f38 f31 (by decide)))).keep Kc16 (ni1 (Exa.ne f38 N_16.2.1 (by decide))))
  have f40 := ((f4.keep Kc13).keep Kc16)
  have f41 := (((M0.2.2.2.1.other W1 (Or.inl (Exa.ne f38 f40 (by decide)))).keep Kc13 (ni1 (Exa.ne f38 f31 (by decide)))).keep Kc16 (ni1 (Exa.ne f38 N_16.2.1 (by decide))))
  have f42 := (((M0.2.2.2.2.1.other W1 (Or.inl (Exa.ne f38 f40 (by decide)))).keep Kc13 (ni1 (Exa.ne f38 f31 (by decide)))).keep Kc16 (ni1 (Exa.ne f38 N_16.2.1 (by decide))))
  have f43 := (((M0.2.2.2.2.2.1.other W1 (Or.inl (Exa.ne f38 f40 (by decide)))).keep Kc13 (ni1 (Exa.ne f38 f31 (by decide)))).keep Kc16 (ni1 (Exa.ne f38 N_16.2.1 (by decide))))
  have f44 := (((M0.2.2.2.2.2.2.other W1 (Or.inl (Exa.ne f38 f40 (by decide)))).keep Kc13 (ni1 (Exa.ne f38 f31 (by decide)))).keep Kc16 (ni1 (Exa.ne f38 N_16.2.1 (by decide))))
  have mq45 : own_M Z n0 h16 tm (.ref er) ev sz mc := ⟨M0.1, f38, f39, f41, f42, f43, f44⟩
  refine w_callP X k2729_83_145 (wd_313 hw) (wd_314 hw) (wd_316 hw) (wd_315 hw) (wd_25 hw) (wd_317 hw) (by decide) f38 (argsL := [(.ref er)]) (S := []) (m_rr0 hw nq30 nq37 mq45 (Ne.symm ne_el_er)) pd_8 rfl rfl rfl (by decide) (leR rfl) (by decide) (by decide) (fun T h19 v19 L19 X q19 => ?_)
  obtain ⟨rfl, N_ea_19, N_eb_19, M_19, Kc19⟩ := q19
  have K46 : Keep h0 h19 [ex, el, er, tm] := K27.trans Kc19 (fun x hx => by simp only [List.mem_cons, List.not_mem_nil, or_false] at hx; rcases hx with rfl | rfl | rfl <;> first | exact (Or.inl (List.mem_of_getElem? (i := 2) rfl)) | exact (Or.inl (List.mem_of_getElem? (i := 1) rfl)) | exact (Or.inl (List.mem_of_getElem? (i := 3) rfl)))
  show Wp _ _ _ _ (T.setTop (mkF _ _ _ []))
  refine w_goto X k2729_83_148 ?_
  refine w_aloadN X k2729_83_5 rfl (rfl) ?_
  refine w_ifnullF X k2729_83_6 ?_
  refine w_aloadN X k2729_83_9 rfl (rfl) ?_
  refine w_aloadN X k2729_83_10 rfl (rfl) ?_
  refine w_getF X k2729_83_11 (host := "") (Or.inl (wd_71 hw)) Via.refl M_19.2.2.1 (fun T X => ?_)
  refine w_acmpeq X (rfl) (rfl) k2729_83_14 (fun hc => absurd hc (own_rne ne_ex_el)) (fun _ => ?_)
  refine w_aloadN X k2729_83_17 rfl (rfl) ?_
  have f47 := (f40.keep Kc19)
  have f48 := (f28.keep Kc19 (ni3 ⟨ne_ex_er, ne_ex_el, (Exa.ne f47 M_19.2.1 (by decide))⟩))
  refine w_getF X k2729_83_18 (host := "") (Or.inl (wd_163 hw)) Via.refl f48 (fun T X => ?_)
  refine w_getF X k2729_83_21 (host := "") (Or.inl (wd_162 hw)) Via.refl N_eb_19.2.2.2.2.2.2.2 (fun T X => ?_)
  refine w_ifne X k2729_83_24 (fun _ => ?_) (fun hc => absurd hc (by decide))
  refine w_aloadN X k2729_83_258 rfl (rfl) ?_
  refine w_getF X k2729_83_259 (host := "") (Or.inl (wd_71 hw)) Via.refl M_19.2.2.1 (fun T X => ?_)
  refine w_iconst X (1 : Int32) k2729_83_262 rfl ?_
  refine w_putFN X k2729_83_263 (wd_162 hw) Via.refl N_eb_19.2.2.2.2.2.2.2 N_eb_19.2.1 (Or.inl (wd_113 hw)) (wd_105 hw) (ty := .boolean) (by decide) (.int (1 : Int32)) rfl (by decide) N_eb_19.1 (fun T h20 X W20 => ?_)
  have f49 := N_eb_19.2.2.2.2.2.2.2.same W20
  have K50 : Keep h0 h20 [ex, el, er, tm] := K46.wr W20 (Or.inl (List.mem_of_getElem? (i := 1) rfl))
  have f51 := (f47.wr W20)
  have f52 := (M_19.2.1.wr W20)
  have f53 := (((((N_ex.2.2.1.other W1 (Or.inr (slot_ne (Or.inl (wd_115 hw)) (Or.inl (wd_113 hw)) (by decide) (t := (.object "java/lang/Object")) (t' := .boolean) (by decide) (by decide)))).keep Kc13 (ni1 ne_ex_el)).keep Kc16 (ni1 ne_ex_er)).keep Kc19 (ni3 ⟨ne_ex_er, ne_ex_el, (Exa.ne f51 f52 (by decide))⟩)).other W20 (Or.inl ne_ex_el))
  have f54 := (((((N_ex.2.2.2.1.other W1 (Or.inr (slot_ne (Or.inl (wd_117 hw)) (Or.inl (wd_113 hw)) (by decide) (t := (.object "java/lang/Object")) (t' := .boolean) (by decide) (by decide)))).keep Kc13 (ni1 ne_ex_el)).keep Kc16 (ni1 ne_ex_er)).keep Kc19 (ni3 ⟨ne_ex_er, ne_ex_el, (Exa.ne f51 f52 (by decide))⟩)).other W20 (Or.inl ne_ex_el))
  have f55 := (((((N_ex.2.2.2.2.1.other W1 (Or.inr (slot_ne (Or.inl (wd_220 hw)) (Or.inl (wd_113 hw)) (by decide) (t := (.object "java/util/TreeMap$Entry")) (t' := .boolean) (by decide) (by decide)))).keep Kc13 (ni1 ne_ex_el)).keep Kc16 (ni1 ne_ex_er)).keep Kc19 (ni3 ⟨ne_ex_er, ne_ex_el, (Exa.ne f51 f52 (by decide))⟩)).other W20 (Or.inl ne_ex_el))
  have f56 := (((((N_ex.2.2.2.2.2.1.other W1 (Or.inr (slot_ne (Or.inl (wd_151 hw)) (Or.inl (wd_113 hw)) (by decide) (t := (.object "java/util/TreeMap$Entry")) (t' := .boolean) (by decide) (by decide)))).keep Kc13 (ni1 ne_ex_el)).keep Kc16 (ni1 ne_ex_er)).keep Kc19 (ni3 ⟨ne_ex_er, ne_ex_el, (Exa.ne f51 f52 (by decide))⟩)).other W20 (Or.inl ne_ex_el))
  have f57 := (f48.other W20 (Or.inl ne_ex_el))
  have f58 := ((((f1.keep Kc13 (ni1 ne_ex_el)).keep Kc16 (ni1 ne_ex_er)).keep Kc19 (ni3 ⟨ne_ex_er, ne_ex_el, (Exa.ne f51 f52 (by decide))⟩)).other W20 (Or.inl ne_ex_el))
  have f59 := (N_eb_19.2.1.wr W20)
  have f60 := (N_eb_19.2.2.1.other W20 (Or.inr (slot_ne (Or.inl (wd_115 hw)) (Or.inl (wd_113 hw)) (by decide) (t := (.object "java/lang/Object")) (t' := .boolean) (by decide) (by decide))))
  have f61 := (N_eb_19.2.2.2.1.other W20 (Or.inr (slot_ne (Or.inl (wd_117 hw)) (Or.inl (wd_113 hw)) (by decide) (t := (.object "java/lang/Object")) (t' := .boolean) (by decide) (by decide))))
  have f62 := (N_eb_19.2.2.2.2.1.other W20 (Or.inr (slot_ne (Or.inl (wd_220 hw)) (Or.inl (wd_113 hw)) (by decide) (t := (.object "java/util/TreeMap$Entry")) (t' := .boolean) (by decide) (by decide))))
  have f63 := (N_eb_19.2.2.2.2.2.1.other W20 (Or.inr (slot_ne (Or.inl (wd_151 hw)) (Or.inl (wd_113 hw)) (by decide) (t := (.object "java/util/TreeMap$Entry")) (t' := .boolean) (by decide) (by decide))))
  have f64 := (N_eb_19.2.2.2.2.2.2.1.other W20 (Or.inr (slot_ne (Or.inl (wd_119 hw)) (Or.inl (wd_113 hw)) (by decide) (t := (.object "java/util/TreeMap$Entry")) (t' := .boolean) (by decide) (by decide))))
  have f65 := (N_ea_19.2.1.wr W20)
  have f66 := (N_ea_19.2.2.1.other W20 (Or.inl (Ne.symm ne_el_er)))
  have f67 := (N_ea_19.2.2.2.1.other W20 (Or.inl (Ne.symm ne_el_er)))
  have f68 := (N_ea_19.2.2.2.2.1.other W20 (Or.inl (Ne.symm ne_el_er)))
  have f69 := (N_ea_19.2.2.2.2.2.1.other W20 (Or.inl (Ne.symm ne_el_er)))
  have f70 := (N_ea_19.2.2.2.2.2.2.1.other W20 (Or.inl (Ne.symm ne_el_er)))
  have f71 := (N_ea_19.2.2.2.2.2.2.2.other W20 (Or.inl (Ne.symm ne_el_er)))
  have f72 := (M_19.2.2.1.other W20 (Or.inl (Exa.ne f52 f59 (by decide))))
  have f73 := (M_19.2.2.2.1.other W20 (Or.inl (Exa.ne f52 f59 (by decide))))
  have f74 := (M_19.2.2.2.2.1.other W20 (Or.inl (Exa.ne f52 f59 (by decide))))
  have f75 := (M_19.2.2.2.2.2.1.other W20 (Or.inl (Exa.ne f52 f59 (by decide))))
  have f76 := (M_19.2.2.2.2.2.2.other W20 (Or.inl (Exa.ne f52 f59 (by decide))))
  exact w_retV X k2729_83_266 ⟨rfl, ⟨N_ex.1, f51, f53, f54, f55, f56, f57, f58⟩, ⟨N_eb_19.1, f59, f60, f61, f62, f63, f64, f49⟩, ⟨N_ea_19.1, f65, f66, f67, f68, f69, f70, f71⟩, ⟨M_19.1, f52, f72, f73, f74, f75, f76⟩, K50⟩ (by decide) (by decide)
theorem m_fxlr (hw : own_hw a0 Z) {h0 : Heap} {ex el er tm : Addr} {kx vx kl vl kr vr ev : Value} {cx sz mc : Int32} (N_ex : own_N Z n0 h0 ex kx vx .null .null (.ref el) cx) (N_el : own_N Z n0 h0 el kl vl .null (.ref ex) (.ref er) (0 : Int32)) (N_er : own_N Z n0 h0 er kr vr (.ref el) .null .null (1 : Int32)) (M0 : own_M Z n0 h0 tm (.ref er) ev sz mc) (ne_ex_el : ex ≠ el) (ne_ex_er : ex ≠ er) (ne_el_er : el ≠ er) :
    Does l Z n0 ⟨"java/util/TreeMap", "fixAfterInsertion", "(Ljava/util/TreeMap$Entry;)V"⟩ jdk_2729_method_83_code 3 none [] { frames := 1, cells := 0, slots := 0, locals := 14 } #[(.ref tm), (.ref ex)] h0 (fun v h => v = none ∧ own_N Z n0 h ex kx vx (.ref el) (.ref er) .null (1 : Int32) ∧ own_N Z n0 h el kl vl .null .null (.ref ex) (0 : Int32) ∧ own_N Z n0 h er kr vr .null .null (.ref ex) (0 : Int32) ∧ own_M Z n0 h tm (.ref ex) ev sz mc ∧ Keep h0 h [ex, el, er, tm]) := by
  refine Does.start (plainFor_of_name pn_2) ?_
  intro p e s m below meth c T X
  replace X : Sd _ _ _ _ _ "java/util/TreeMap" "fixAfterInsertion" _ _ _ _ _ _ _ _ _ _ _ _ _ _ _ _ := X
  refine Wp.cast (g' := mkF m 0 #[.val (.ref tm), .val (.ref ex), .unset] []) (by first | (simp [entryFrame, mkF, argsToLocals, Value.category, maxLocals]; done) | rfl) ?_
  refine w_aloadN X k2729_83_0 rfl (rfl) ?_
  refine w_iconst X (0 : Int32) k2729_83_1 rfl ?_
  refine w_putFN X k2729_83_2 (wd_162 hw) Via.refl N_ex.2.2.2.2.2.2.2 N_ex.2.1 (Or.inl (wd_113 hw)) (wd_105 hw) (ty := .boolean) (by decide) (.int (0 : Int32)) rfl (by decide) N_ex.1 (fun T h1 X W1 => ?_)
  have f1 := N_ex.2.2.2.2.2.2.2.same W1
  have K2 : Keep h0 h1 [ex, el, er, tm] := (Keep.refl h0 [ex, el, er, tm]).wr W1 (Or.inl (List.mem_of_getElem? (i := 0) rfl))
  refine w_aloadN X k2729_83_5 rfl (rfl) ?_
  refine w_ifnullF X k2729_83_6 ?_
  refine w_aloadN X k2729_83_9 rfl (rfl) ?_
  refine w_aloadN X k2729_83_10 rfl (rfl) ?_
  have f3 := (M0.2.1.wr W1)
  have f4 := (N_ex.2.1.wr W1)
  have f5 := (M0.2.2.1.other W1 (Or.inl (Exa.ne f3 f4 (by decide))))
  refine w_getF X k2729_83_11 (host := "") (Or.inl (wd_71 hw)) Via.refl f5 (fun T X => ?_)
  refine w_acmpeq X (rfl) (rfl) k2729_83_14 (fun hc => absurd hc (own_rne ne_ex_er)) (fun _ => ?_)
  refine w_aloadN X k2729_83_17 rfl (rfl) ?_
  have f6 := (N_ex.2.2.2.2.2.2.1.other W1 (Or.inr (slot_ne (Or.inl (wd_119 hw)) (Or.inl (wd_113 hw)) (by decide) (t := (.object "java/util/TreeMap$Entry")) (t' := .boolean) (by decide) (by decide))))
  refine w_getF X k2729_83_18 (host := "") (Or.inl (wd_163 hw)) Via.refl f6 (fun T X => ?_)
  have f7 := (N_el.2.2.2.2.2.2.2.other W1 (Or.inl (Ne.symm ne_ex_el)))
  refine w_getF X k2729_83_21 (host := "") (Or.inl (wd_162 hw)) Via.refl f7 (fun T X => ?_)
  refine w_ifne X k2729_83_24 (fun hc => absurd rfl hc) (fun _ => ?_)
  refine w_aloadN X k2729_83_27 rfl (rfl) ?_
  refine w_callS X k2729_83_28 (wd_296 hw) (wd_297 hw) (wd_25 hw) (wd_298 hw) (by decide) (argsL := [(.ref ex)]) (S := []) (m_parentOf hw (pv := (.ref el)) rfl f6) pd_5 rfl rfl rfl (by decide) (leR rfl) (by decide) (by decide) (fun T h2 v2 L2 X q2 => ?_)
  obtain ⟨rfl, rfl⟩ := q2
  show Wp _ _ _ _ (T.setTop (mkF _ _ _ [(.ref el)]))
  refine w_aloadN X k2729_83_31 rfl (rfl) ?_
  refine w_callS X k2729_83_32 (wd_296 hw) (wd_297 hw) (wd_25 hw) (wd_298 hw) (by decide) (argsL := [(.ref ex)]) (S := [(.ref el)]) (m_parentOf hw (pv := (.ref el)) rfl f6) pd_5 rfl rfl rfl (by decide) (leR rfl) (by decide) (by decide) (fun T h3 v3 L3 X q3 => ?_)
  obtain ⟨rfl, rfl⟩ := q3
  show Wp _ _ _ _ (T.setTop (mkF _ _ _ [(.ref el), (.ref el)]))
  have f8 := (N_el.2.2.2.2.2.2.1.other W1 (Or.inl (Ne.symm ne_ex_el)))
  refine w_callS X k2729_83_35 (wd_296 hw) (wd_297 hw) (wd_25 hw) (wd_298 hw) (by decide) (argsL := [(.ref el)]) (S := [(.ref el)]) (m_parentOf hw (pv := (.ref er)) rfl f8) pd_5 rfl rfl rfl (by decide) (leR rfl) (by decide) (by decide) (fun T h4 v4 L4 X q4 => ?_)
  obtain ⟨rfl, rfl⟩ := q4
  show Wp _ _ _ _ (T.setTop (mkF _ _ _ [(.ref er), (.ref el)]))
  have f9 := (N_er.2.2.2.2.1.other W1 (Or.inl (Ne.symm ne_ex_er)))
  refine w_callS X k2729_83_38 (wd_299 hw) (wd_300 hw) (wd_25 hw) (wd_301 hw) (by decide) (argsL := [(.ref er)]) (S := [(.ref el)]) (m_leftOf hw (pv := (.ref el)) rfl f9) pd_5 rfl rfl rfl (by decide) (leR rfl) (by decide) (by decide) (fun T h5 v5 L5 X q5 => ?_)
  obtain ⟨rfl, rfl⟩ := q5
  show Wp _ _ _ _ (T.setTop (mkF _ _ _ [(.ref el), (.ref el)]))
  refine w_acmpne X (rfl) (rfl) k2729_83_41 (fun hc => absurd rfl hc) (fun _ => ?_)
  refine w_aloadN X k2729_83_44 rfl (rfl) ?_
  refine w_callS X k2729_83_45 (wd_296 hw) (wd_297 hw) (wd_25 hw) (wd_298 hw) (by decide) (argsL := [(.ref ex)]) (S := []) (m_parentOf hw (pv := (.ref el)) rfl f6) pd_5 rfl rfl rfl (by decide) (leR rfl) (by decide) (by decide) (fun T h6 v6 L6 X q6 => ?_)
  obtain ⟨rfl, rfl⟩ := q6
  show Wp _ _ _ _ (T.setTop (mkF _ _ _ [(.ref el)]))
  refine w_callS X k2729_83_48 (wd_296 hw) (wd_297 hw) (wd_25 hw) (wd_298 hw) (by decide) (argsL := [(.ref el)]) (S := []) (m_parentOf hw (pv := (.ref er)) rfl f8) pd_5 rfl rfl rfl (by decide) (leR rfl) (by decide) (by decide) (fun T h7 v7 L7 X q7 => ?_)
  obtain ⟨rfl, rfl⟩ := q7
  show Wp _ _ _ _ (T.setTop (mkF _ _ _ [(.ref er)]))
  have f10 := (N_er.2.2.2.2.2.1.other W1 (Or.inl (Ne.symm ne_ex_er)))
  refine w_callS X k2729_83_51 (wd_318 hw) (wd_319 hw) (wd_25 hw) (wd_320 hw) (by decide) (argsL := [(.ref er)]) (S := []) (m_rightOf hw (pv := .null) rfl f10) pd_5 rfl rfl rfl (by decide) (leR rfl) (by decide) (by decide) (fun T h8 v8 L8 X q8 => ?_)
  obtain ⟨rfl, rfl⟩ := q8
  show Wp _ _ _ _ (T.setTop (mkF _ _ _ [.null]))
  refine w_astoreN X #[.val (.ref tm), .val (.ref ex), .val .null] k2729_83_54 (rfl) rfl ?_
  refine w_aloadN X k2729_83_55 rfl (rfl) ?_
  refine w_callS X k2729_83_56 (wd_302 hw) (wd_303 hw) (wd_25 hw) (wd_304 hw) (by decide) (argsL := [.null]) (S := []) (m_con hw) pd_6 rfl rfl rfl (by decide) (leR rfl) (by decide) (by decide) (fun T h9 v9 L9 X q9 => ?_)
  obtain ⟨rfl, rfl⟩ := q9
  show Wp _ _ _ _ (T.setTop (mkF _ _ _ [(.int (1 : Int32))]))
  refine w_ifne X k2729_83_59 (fun _ => ?_) (fun hc => absurd hc (by decide))
  refine w_aloadN X k2729_83_97 rfl (rfl) ?_
  refine w_aloadN X k2729_83_98 rfl (rfl) ?_
  refine w_callS X k2729_83_99 (wd_296 hw) (wd_297 hw) (wd_25 hw) (wd_298 hw) (by decide) (argsL := [(.ref ex)]) (S := [(.ref ex)]) (m_parentOf hw (pv := (.ref el)) rfl f6) pd_5 rfl rfl rfl (by decide) (leR rfl) (by decide) (by decide) (fun T h10 v10 L10 X q10 => ?_)
  obtain ⟨rfl, rfl⟩ := q10
  show Wp _ _ _ _ (T.setTop (mkF _ _ _ [(.ref el), (.ref ex)]))
  have f11 := (N_el.2.2.2.2.2.1.other W1 (Or.inl (Ne.symm ne_ex_el)))
  refine w_callS X k2729_83_102 (wd_318 hw) (wd_319 hw) (wd_25 hw) (wd_320 hw) (by decide) (argsL := [(.ref el)]) (S := [(.ref ex)]) (m_rightOf hw (pv := (.ref ex)) rfl f11) pd_5 rfl rfl rfl (by decide) (leR rfl) (by decide) (by decide) (fun T h11 v11 L11 X q11 => ?_)
  obtain ⟨rfl, rfl⟩ := q11
  show Wp _ _ _ _ (T.setTop (mkF _ _ _ [(.ref ex), (.ref ex)]))
  refine w_acmpne X (rfl) (rfl) k2729_83_105 (fun hc => absurd rfl hc) (fun _ => ?_)
  refine w_aloadN X k2729_83_108 rfl (rfl) ?_
  refine w_callS X k2729_83_109 (wd_296 hw) (wd_297 hw) (wd_25 hw) (wd_298 hw) (by decide) (argsL := [(.ref ex)]) (S := []) (m_parentOf hw (pv := (.ref el)) rfl f6) pd_5 rfl rfl rfl (by decide) (leR rfl) (by decide) (by decide) (fun T h12 v12 L12 X q12 => ?_)
  obtain ⟨rfl, rfl⟩ := q12
  show Wp _ _ _ _ (T.setTop (mkF _ _ _ [(.ref el)]))
  refine w_astoreN X #[.val (.ref tm), .val (.ref el), .val .null] k2729_83_112 (rfl) rfl ?_
  refine w_aloadN X k2729_83_113 rfl (rfl) ?_
  refine w_aloadN X k2729_83_114 rfl (rfl) ?_
  have f12 := (N_el.2.1.wr W1)
  have f13 := (N_el.2.2.1.other W1 (Or.inl (Ne.symm ne_ex_el)))
  have f14 := (N_el.2.2.2.1.other W1 (Or.inl (Ne.symm ne_ex_el)))
  have f15 := (N_el.2.2.2.2.1.other W1 (Or.inl (Ne.symm ne_ex_el)))
  have nq16 : own_N Z n0 h1 el kl vl .null (.ref ex) (.ref er) (0 : Int32) := ⟨N_el.1, f12, f13, f14, f15, f11, f8, f7⟩
  have f17 := (N_ex.2.2.1.other W1 (Or.inr (slot_ne (Or.inl (wd_115 hw)) (Or.inl (wd_113 hw)) (by decide) (t := (.object "java/lang/Object")) (t' := .boolean) (by decide) (by decide))))
  have f18 := (N_ex.2.2.2.1.other W1 (Or.inr (slot_ne (Or.inl (wd_117 hw)) (Or.inl (wd_113 hw)) (by decide) (t := (.object "java/lang/Object")) (t' := .boolean) (by decide) (by decide))))
  have f19 := (N_ex.2.2.2.2.1.other W1 (Or.inr (slot_ne (Or.inl (wd_220 hw)) (Or.inl (wd_113 hw)) (by decide) (t := (.object "java/util/TreeMap$Entry")) (t' := .boolean) (by decide) (by decide))))
  have f20 := (N_ex.2.2.2.2.2.1.other W1 (Or.inr (slot_ne (Or.inl (wd_151 hw)) (Or.inl (wd_113 hw)) (by decide) (t := (.object "java/util/TreeMap$Entry")) (t' := .boolean) (by decide) (by decide))))
  have nq21 : own_N Z n0 h1 ex kx vx .null .null (.ref el) (0 : Int32) := ⟨N_ex.1, f4, f17, f18, f19, f20, f6, f1⟩
  have f22 := (N_er.2.1.wr W1)
  have f23 := (N_er.2.2.1.other W1 (Or.inl (Ne.symm ne_ex_er)))
  have f24 := (N_er.2.2.2.1.other W1 (Or.inl (Ne.symm ne_ex_er)))
  have f25 := (N_er.2.2.2.2.2.2.1.other W1 (Or.inl (Ne.symm ne_ex_er)))
  have f26 := (N_er.2.2.2.2.2.2.2.other W1 (Or.inl (Ne.symm ne_ex_er)))
  have nq27 : own_N Z n0 h1 er kr vr (.ref el) .null .null (1 : Int32) := ⟨N_er.1, f22, f23, f24, f9, f10, f25, f26⟩
  refine w_callP X k2729_83_115 (wd_308 hw) (wd_309 hw) (wd_311 hw) (wd_310 hw) (wd_25 hw) (wd_312 hw) (by decide) f3 (argsL := [(.ref el)]) (S := []) (m_rl1 hw nq16 nq21 nq27 f3 (Ne.symm ne_ex_el) ne_el_er ne_ex_er) pd_8 rfl rfl rfl (by decide) (leR rfl) (by decide) (by decide) (fun T h13 v13 L13 X q13 => ?_)
  obtain ⟨rfl, N_ea_13, N_eb_13, N_ec_13, Kc13⟩ := q13
  have K28 : Keep h0 h13 [ex, el, er, tm] := K2.trans Kc13 (fun x hx => by simp only [List.mem_cons, List.not_mem_nil, or_false] at hx; rcases hx with rfl | rfl | rfl <;> first | exact (Or.inl (List.mem_of_getElem? (i := 1) rfl)) | exact (Or.inl (List.mem_of_getElem? (i := 0) rfl)) | exact (Or.inl (List.mem_of_getElem? (i := 2) rfl)))
  show Wp _ _ _ _ (T.setTop (mkF _ _ _ []))
  refine w_aloadN X k2729_83_118 rfl (rfl) ?_
  refine w_callS X k2729_83_119 (wd_296 hw) (wd_297 hw) (wd_25 hw) (wd_298 hw) (by decide) (argsL := [(.ref el)]) (S := []) (m_parentOf hw (pv := (.ref ex)) rfl N_ea_13.2.2.2.2.2.2.1) pd_5 rfl rfl rfl (by decide) (leR rfl) (by decide) (by decide) (fun T h14 v14 L14 X q14 => ?_)
  obtain ⟨rfl, rfl⟩ := q14
  show Wp _ _ _ _ (T.setTop (mkF _ _ _ [(.ref ex)]))
  refine w_iconst X (1 : Int32) k2729_83_122 rfl ?_
  have nq29 : own_N Z n0 h13 ex kx vx (.ref el) .null (.ref er) (0 : Int32) := ⟨N_eb_13.1, N_eb_13.2.1, N_eb_13.2.2.1, N_eb_13.2.2.2.1, N_eb_13.2.2.2.2.1, N_eb_13.2.2.2.2.2.1, N_eb_13.2.2.2.2.2.2.1, N_eb_13.2.2.2.2.2.2.2⟩
  refine w_callS X k2729_83_123 (wd_305 hw) (wd_306 hw) (wd_25 hw) (wd_307 hw) (by decide) (argsL := [(.ref ex), (.int (1 : Int32))]) (S := []) (m_sc1 hw nq29) pd_7 rfl rfl rfl (by decide) (leR rfl) (by decide) (by decide) (fun T h15 v15 L15 X q15 => ?_)
  obtain ⟨rfl, N_15, Kc15⟩ := q15
  have K30 : Keep h0 h15 [ex, el, er, tm] := K28.trans Kc15 (fun x hx => by cases List.mem_singleton.mp hx; exact (Or.inl (List.mem_of_getElem? (i := 0) rfl)))
  show Wp _ _ _ _ (T.setTop (mkF _ _ _ []))
  refine w_aloadN X k2729_83_126 rfl (rfl) ?_
  have f31 := (N_ea_13.2.2.2.2.2.2.1.keep Kc15 (ni1 (Ne.symm ne_ex_el)))
  refine w_callS X k2729_83_127 (wd_296 hw) (wd_297 hw) (wd_25 hw) (wd_298 hw) (by decide) (argsL := [(.ref el)]) (S := []) (m_parentOf hw (pv := (.ref ex)) rfl f31) pd_5 rfl rfl rfl (by decide) (leR rfl) (by decide) (by decide) (fun T h16 v16 L16 X q16 => ?_)
  obtain ⟨rfl, rfl⟩ := q16
  show Wp _ _ _ _ (T.setTop (mkF _ _ _ [(.ref ex)]))
  refine w_callS X k2729_83_130 (wd_296 hw) (wd_297 hw) (wd_25 hw) (wd_298 hw) (by decide) (argsL := [(.ref ex)]) (S := []) (m_parentOf hw (pv := (.ref er)) rfl N_15.2.2.2.2.2.2.1) pd_5 rfl rfl rfl (by decide) (leR rfl) (by decide) (by decide) (fun T h17 v17 L17 X q17 => ?_)
  obtain ⟨rfl, rfl⟩ := q17
  show Wp _ _ _ _ (T.setTop (mkF _ _ _ [(.ref er)]))
  refine w_iconst X (0 : Int32) k2729_83_133 rfl ?_
  have f32 := (N_ec_13.2.1.keep Kc15)
  have f33 := (N_ec_13.2.2.1.keep Kc15 (ni1 (Ne.symm ne_ex_er)))
  have f34 := (N_ec_13.2.2.2.1.keep Kc15 (ni1 (Ne.symm ne_ex_er)))
  have f35 := (N_ec_13.2.2.2.2.1.keep Kc15 (ni1 (Ne.symm ne_ex_er)))
  have f36 := (N_ec_13.2.2.2.2.2.1.keep Kc15 (ni1 (Ne.symm ne_ex_er)))
  have f37 := (N_ec_13.2.2.2.2.2.2.1.keep Kc15 (ni1 (Ne.symm ne_ex_er)))
  have f38 := (N_ec_13.2.2.2.2.2.2.2.keep Kc15 (ni1 (Ne.symm ne_ex_er)))
  have nq39 : own_N Z n0 h15 er kr vr (.ref ex) .null .null (1 : Int32) := ⟨N_ec_13.1, f32, f33, f34, f35, f36, f37, f38⟩
  refine w_callS X k2729_83_134 (wd_305 hw) (wd_306 hw) (wd_25 hw) (wd_307 hw) (by decide) (argsL := [(.ref er), (.int (0 : Int32))]) (S := []) (m_sc0 hw nq39) pd_7 rfl rfl rfl (by decide) (leR rfl) (by decide) (by decide) (fun T h18 v18 L18 X q18 => ?_)
  obtain ⟨rfl, N_18, Kc18⟩ := q18
  have K40 : Keep h0 h18 [ex, el, er, tm] := K30.trans Kc18 (fun x hx => by cases List.mem_singleton.mp hx; exact (Or.inl (List.mem_of_getElem? (i := 2) rfl)))
  show Wp _ _ _ _ (T.setTop (mkF _ _ _ []))
  refine w_aloadN X k2729_83_137 rfl (rfl) ?_
  refine w_aloadN X k2729_83_138 rfl (rfl) ?_
  have f41 := (f31.keep Kc18 (ni1 ne_el_er))
  refine w_callS X k2729_83_139 (wd_296 hw) (wd_297 hw) (wd_25 hw) (wd_298 hw) (by decide) (argsL := [(.ref el)]) (S := [(.ref tm)]) (m_parentOf hw (pv := (.ref ex)) rfl f41) pd_5 rfl rfl rfl (by decide) (leR rfl) (by decide) (by decide) (fun T h19 v19 L19 X q19 => ?_)
  obtain ⟨rfl, rfl⟩ := q19
  show Wp _ _ _ _ (T.setTop (mkF _ _ _ [(.ref ex), (.ref tm)]))
  have f42 := (N_15.2.2.2.2.2.2.1.keep Kc18 (ni1 ne_ex_er))
  refine w_callS X k2729_83_142 (wd_296 hw) (wd_297 hw) (wd_25 hw) (wd_298 hw) (by decide) (argsL := [(.ref ex)]) (S := [(.ref tm)]) (m_parentOf hw (pv := (.ref er)) rfl f42) pd_5 rfl rfl rfl (by decide) (leR rfl) (by decide) (by decide) (fun T h20 v20 L20 X q20 => ?_)
  obtain ⟨rfl, rfl⟩ := q20
  show Wp _ _ _ _ (T.setTop (mkF _ _ _ [(.ref er), (.ref tm)]))
  have nq43 : own_N Z n0 h18 er kr vr (.ref ex) .null .null (0 : Int32) := ⟨N_18.1, N_18.2.1, N_18.2.2.1, N_18.2.2.2.1, N_18.2.2.2.2.1, N_18.2.2.2.2.2.1, N_18.2.2.2.2.2.2.1, N_18.2.2.2.2.2.2.2⟩
  have f44 := (N_15.2.1.keep Kc18)
  have f45 := (N_15.2.2.1.keep Kc18 (ni1 ne_ex_er))
  have f46 := (N_15.2.2.2.1.keep Kc18 (ni1 ne_ex_er))
  have f47 := (N_15.2.2.2.2.1.keep Kc18 (ni1 ne_ex_er))
  have f48 := (N_15.2.2.2.2.2.1.keep Kc18 (ni1 ne_ex_er))
  have f49 := (N_15.2.2.2.2.2.2.2.keep Kc18 (ni1 ne_ex_er))
  have nq50 : own_N Z n0 h18 ex kx vx (.ref el) .null (.ref er) (1 : Int32) := ⟨N_15.1, f44, f45, f46, f47, f48, f42, f49⟩
  have f51 := (((f3.keep Kc13).keep Kc15).keep Kc18)
  have f52 := ((N_ea_13.2.1.keep Kc15).keep Kc18)
  have f53 := (((f5.keep Kc13 (ni3 ⟨(Exa.ne f51 f52 (by decide)), (Exa.ne f51 f44 (by decide)), (Exa.ne f51 N_18.2.1 (by decide))⟩)).keep Kc15 (ni1 (Exa.ne f51 f44 (by decide)))).keep Kc18 (ni1 (Exa.ne f51 N_18.2.1 (by decide))))
  have f54 := ((((M0.2.2.2.1.other W1 (Or.inl (Exa.ne f51 f44 (by decide)))).keep Kc13 (ni3 ⟨(Exa.ne f51 f52 (by decide)), (Exa.ne f51 f44 (by decide)), (Exa.ne f51 N_18.2.1 (by decide))⟩)).keep Kc15 (ni1 (Exa.ne f51 f44 (by decide)))).keep Kc18 (ni1 (Exa.ne f51 N_18.2.1 (by decide))))
  have f55 := ((((M0.2.2.2.2.1.other W1 (Or.inl (Exa.ne f51 f44 (by decide)))).keep Kc13 (ni3 ⟨(Exa.ne f51 f52 (by decide)), (Exa.ne f51 f44 (by decide)), (Exa.ne f51 N_18.2.1 (by decide))⟩)).keep Kc15 (ni1 (Exa.ne f51 f44 (by decide)))).keep Kc18 (ni1 (Exa.ne f51 N_18.2.1 (by decide))))
  have f56 := ((((M0.2.2.2.2.2.1.other W1 (Or.inl (Exa.ne f51 f44 (by decide)))).keep Kc13 (ni3 ⟨(Exa.ne f51 f52 (by decide)), (Exa.ne f51 f44 (by decide)), (Exa.ne f51 N_18.2.1 (by decide))⟩)).keep Kc15 (ni1 (Exa.ne f51 f44 (by decide)))).keep Kc18 (ni1 (Exa.ne f51 N_18.2.1 (by decide))))
  have f57 := ((((M0.2.2.2.2.2.2.other W1 (Or.inl (Exa.ne f51 f44 (by decide)))).keep Kc13 (ni3 ⟨(Exa.ne f51 f52 (by decide)), (Exa.ne f51 f44 (by decide)), (Exa.ne f51 N_18.2.1 (by decide))⟩)).keep Kc15 (ni1 (Exa.ne f51 f44 (by decide)))).keep Kc18 (ni1 (Exa.ne f51 N_18.2.1 (by decide))))
  have mq58 : own_M Z n0 h18 tm (.ref er) ev sz mc := ⟨M0.1, f51, f53, f54, f55, f56, f57⟩
  refine w_callP X k2729_83_145 (wd_313 hw) (wd_314 hw) (wd_316 hw) (wd_315 hw) (wd_25 hw) (wd_317 hw) (by decide) f51 (argsL := [(.ref er)]) (S := []) (m_rr0 hw nq43 nq50 mq58 (Ne.symm ne_ex_er)) pd_8 rfl rfl rfl (by decide) (leR rfl) (by decide) (by decide) (fun T h21 v21 L21 X q21 => ?_)
  obtain ⟨rfl, N_ea_21, N_eb_21, M_21, Kc21⟩ := q21
  have K59 : Keep h0 h21 [ex, el, er, tm] := K40.trans Kc21 (fun x hx => by simp only [List.mem_cons, List.not_mem_nil, or_false] at hx; rcases hx with rfl | rfl | rfl <;> first | exact (Or.inl (List.mem_of_getElem? (i := 2) rfl)) | exact (Or.inl (List.mem_of_getElem? (i := 0) rfl)) | exact (Or.inl (List.mem_of_getElem? (i := 3) rfl)))
  show Wp _ _ _ _ (T.setTop (mkF _ _ _ []))
  refine w_goto X k2729_83_148 ?_
  refine w_aloadN X k2729_83_5 rfl (rfl) ?_
  refine w_ifnullF X k2729_83_6 ?_
  refine w_aloadN X k2729_83_9 rfl (rfl) ?_
  refine w_aloadN X k2729_83_10 rfl (rfl) ?_
  refine w_getF X k2729_83_11 (host := "") (Or.inl (wd_71 hw)) Via.refl M_21.2.2.1 (fun T X => ?_)
  refine w_acmpeq X (rfl) (rfl) k2729_83_14 (fun hc => absurd hc (own_rne (Ne.symm ne_ex_el))) (fun _ => ?_)
  refine w_aloadN X k2729_83_17 rfl (rfl) ?_
  have f60 := (f52.keep Kc21)
  have f61 := (f41.keep Kc21 (ni3 ⟨ne_el_er, (Ne.symm ne_ex_el), (Exa.ne f60 M_21.2.1 (by decide))⟩))
  refine w_getF X k2729_83_18 (host := "") (Or.inl (wd_163 hw)) Via.refl f61 (fun T X => ?_)
  refine w_getF X k2729_83_21 (host := "") (Or.inl (wd_162 hw)) Via.refl N_eb_21.2.2.2.2.2.2.2 (fun T X => ?_)
  refine w_ifne X k2729_83_24 (fun _ => ?_) (fun hc => absurd hc (by decide))
  refine w_aloadN X k2729_83_258 rfl (rfl) ?_
  refine w_getF X k2729_83_259 (host := "") (Or.inl (wd_71 hw)) Via.refl M_21.2.2.1 (fun T X => ?_)
  refine w_iconst X (1 : Int32) k2729_83_262 rfl ?_
  refine w_putFN X k2729_83_263 (wd_162 hw) Via.refl N_eb_21.2.2.2.2.2.2.2 N_eb_21.2.1 (Or.inl (wd_113 hw)) (wd_105 hw) (ty := .boolean) (by decide) (.int (1 : Int32)) rfl (by decide) N_eb_21.1 (fun T h22 X W22 => ?_)
  have f62 := N_eb_21.2.2.2.2.2.2.2.same W22
  have K63 : Keep h0 h22 [ex, el, er, tm] := K59.wr W22 (Or.inl (List.mem_of_getElem? (i := 0) rfl))
  have f64 := (N_eb_21.2.1.wr W22)
  have f65 := (N_eb_21.2.2.1.other W22 (Or.inr (slot_ne (Or.inl (wd_115 hw)) (Or.inl (wd_113 hw)) (by decide) (t := (.object "java/lang/Object")) (t' := .boolean) (by decide) (by decide))))
  have f66 := (N_eb_21.2.2.2.1.other W22 (Or.inr (slot_ne (Or.inl (wd_117 hw)) (Or.inl (wd_113 hw)) (by decide) (t := (.object "java/lang/Object")) (t' := .boolean) (by decide) (by decide))))
  have f67 := (N_eb_21.2.2.2.2.1.other W22 (Or.inr (slot_ne (Or.inl (wd_220 hw)) (Or.inl (wd_113 hw)) (by decide) (t := (.object "java/util/TreeMap$Entry")) (t' := .boolean) (by decide) (by decide))))
  have f68 := (N_eb_21.2.2.2.2.2.1.other W22 (Or.inr (slot_ne (Or.inl (wd_151 hw)) (Or.inl (wd_113 hw)) (by decide) (t := (.object "java/util/TreeMap$Entry")) (t' := .boolean) (by decide) (by decide))))
  have f69 := (N_eb_21.2.2.2.2.2.2.1.other W22 (Or.inr (slot_ne (Or.inl (wd_119 hw)) (Or.inl (wd_113 hw)) (by decide) (t := (.object "java/util/TreeMap$Entry")) (t' := .boolean) (by decide) (by decide))))
  have f70 := (f60.wr W22)
  have f71 := (M_21.2.1.wr W22)
  have f72 := ((((N_ea_13.2.2.1.keep Kc15 (ni1 (Ne.symm ne_ex_el))).keep Kc18 (ni1 ne_el_er)).keep Kc21 (ni3 ⟨ne_el_er, (Ne.symm ne_ex_el), (Exa.ne f70 f71 (by decide))⟩)).other W22 (Or.inl (Ne.symm ne_ex_el)))
  have f73 := ((((N_ea_13.2.2.2.1.keep Kc15 (ni1 (Ne.symm ne_ex_el))).keep Kc18 (ni1 ne_el_er)).keep Kc21 (ni3 ⟨ne_el_er, (Ne.symm ne_ex_el), (Exa.ne f70 f71 (by decide))⟩)).other W22 (Or.inl (Ne.symm ne_ex_el)))
  have f74 := ((((N_ea_13.2.2.2.2.1.keep Kc15 (ni1 (Ne.symm ne_ex_el))).keep Kc18 (ni1 ne_el_er)).keep Kc21 (ni3 ⟨ne_el_er, (Ne.symm ne_ex_el), (Exa.ne f70 f71 (by decide))⟩)).other W22 (Or.inl (Ne.symm ne_ex_el)))
  have f75 := ((((N_ea_13.2.2.2.2.2.1.keep Kc15 (ni1 (Ne.symm ne_ex_el))).keep Kc18 (ni1 ne_el_er)).keep Kc21 (ni3 ⟨ne_el_er, (Ne.symm ne_ex_el), (Exa.ne f70 f71 (by decide))⟩)).other W22 (Or.inl (Ne.symm ne_ex_el)))
  have f76 := (f61.other W22 (Or.inl (Ne.symm ne_ex_el)))
  have f77 := ((((N_ea_13.2.2.2.2.2.2.2.keep Kc15 (ni1 (Ne.symm ne_ex_el))).keep Kc18 (ni1 ne_el_er)).keep Kc21 (ni3 ⟨ne_el_er, (Ne.symm ne_ex_el), (Exa.ne f70 f71 (by decide))⟩)).other W22 (Or.inl (Ne.symm ne_ex_el)))
  have f78 := (N_ea_21.2.1.wr W22)
  have f79 := (N_ea_21.2.2.1.other W22 (Or.inl (Ne.symm ne_ex_er)))
  have f80 := (N_ea_21.2.2.2.1.other W22 (Or.inl (Ne.symm ne_ex_er)))
  have f81 := (N_ea_21.2.2.2.2.1.other W22 (Or.inl (Ne.symm ne_ex_er)))
  have f82 := (N_ea_21.2.2.2.2.2.1.other W22 (Or.inl (Ne.symm ne_ex_er)))
  have f83 := (N_ea_21.2.2.2.2.2.2.1.other W22 (Or.inl (Ne.symm ne_ex_er)))
  have f84 := (N_ea_21.2.2.2.2.2.2.2.other W22 (Or.inl (Ne.symm ne_ex_er)))
  have f85 := (M_21.2.2.1.other W22 (Or.inl (Exa.ne f71 f64 (by decide))))
  have f86 := (M_21.2.2.2.1.other W22 (Or.inl (Exa.ne f71 f64 (by decide))))
  have f87 := (M_21.2.2.2.2.1.other W22 (Or.inl (Exa.ne f71 f64 (by decide))))
  have f88 := (M_21.2.2.2.2.2.1.other W22 (Or.inl (Exa.ne f71 f64 (by decide))))
  have f89 := (M_21.2.2.2.2.2.2.other W22 (Or.inl (Exa.ne f71 f64 (by decide))))
  exact w_retV X k2729_83_266 ⟨rfl, ⟨N_eb_21.1, f64, f65, f66, f67, f68, f69, f62⟩, ⟨N_ea_13.1, f70, f72, f73, f74, f75, f76, f77⟩, ⟨N_ea_21.1, f78, f79, f80, f81, f82, f83, f84⟩, ⟨M_21.1, f71, f85, f86, f87, f88, f89⟩, K63⟩ (by decide) (by decide)
theorem m_fxrr (hw : own_hw a0 Z) {h0 : Heap} {ex el er tm : Addr} {kx vx kl vl kr vr ev : Value} {cx sz mc : Int32} (N_ex : own_N Z n0 h0 ex kx vx .null .null (.ref el) cx) (N_el : own_N Z n0 h0 el kl vl .null (.ref ex) (.ref er) (0 : Int32)) (N_er : own_N Z n0 h0 er kr vr .null (.ref el) .null (1 : Int32)) (M0 : own_M Z n0 h0 tm (.ref er) ev sz mc) (ne_ex_el : ex ≠ el) (ne_ex_er : ex ≠ er) (ne_el_er : el ≠ er) :
    Does l Z n0 ⟨"java/util/TreeMap", "fixAfterInsertion", "(Ljava/util/TreeMap$Entry;)V"⟩ jdk_2729_method_83_code 3 none [] { frames := 1, cells := 0, slots := 0, locals := 14 } #[(.ref tm), (.ref ex)] h0 (fun v h => v = none ∧ own_N Z n0 h ex kx vx .null .null (.ref el) (0 : Int32) ∧ own_N Z n0 h el kl vl (.ref er) (.ref ex) .null (1 : Int32) ∧ own_N Z n0 h er kr vr .null .null (.ref el) (0 : Int32) ∧ own_M Z n0 h tm (.ref el) ev sz mc ∧ Keep h0 h [ex, el, er, tm]) := by
  refine Does.start (plainFor_of_name pn_2) ?_
  intro p e s m below meth c T X
  replace X : Sd _ _ _ _ _ "java/util/TreeMap" "fixAfterInsertion" _ _ _ _ _ _ _ _ _ _ _ _ _ _ _ _ := X
  refine Wp.cast (g' := mkF m 0 #[.val (.ref tm), .val (.ref ex), .unset] []) (by first | (simp [entryFrame, mkF, argsToLocals, Value.category, maxLocals]; done) | rfl) ?_
  refine w_aloadN X k2729_83_0 rfl (rfl) ?_
  refine w_iconst X (0 : Int32) k2729_83_1 rfl ?_
  refine w_putFN X k2729_83_2 (wd_162 hw) Via.refl N_ex.2.2.2.2.2.2.2 N_ex.2.1 (Or.inl (wd_113 hw)) (wd_105 hw) (ty := .boolean) (by decide) (.int (0 : Int32)) rfl (by decide) N_ex.1 (fun T h1 X W1 => ?_)
  have f1 := N_ex.2.2.2.2.2.2.2.same W1
  have K2 : Keep h0 h1 [ex, el, er, tm] := (Keep.refl h0 [ex, el, er, tm]).wr W1 (Or.inl (List.mem_of_getElem? (i := 0) rfl))
  refine w_aloadN X k2729_83_5 rfl (rfl) ?_
  refine w_ifnullF X k2729_83_6 ?_
  refine w_aloadN X k2729_83_9 rfl (rfl) ?_
  refine w_aloadN X k2729_83_10 rfl (rfl) ?_
  have f3 := (M0.2.1.wr W1)
  have f4 := (N_ex.2.1.wr W1)
  have f5 := (M0.2.2.1.other W1 (Or.inl (Exa.ne f3 f4 (by decide))))
  refine w_getF X k2729_83_11 (host := "") (Or.inl (wd_71 hw)) Via.refl f5 (fun T X => ?_)
  refine w_acmpeq X (rfl) (rfl) k2729_83_14 (fun hc => absurd hc (own_rne ne_ex_er)) (fun _ => ?_)
  refine w_aloadN X k2729_83_17 rfl (rfl) ?_
  have f6 := (N_ex.2.2.2.2.2.2.1.other W1 (Or.inr (slot_ne (Or.inl (wd_119 hw)) (Or.inl (wd_113 hw)) (by decide) (t := (.object "java/util/TreeMap$Entry")) (t' := .boolean) (by decide) (by decide))))
  refine w_getF X k2729_83_18 (host := "") (Or.inl (wd_163 hw)) Via.refl f6 (fun T X => ?_)
  have f7 := (N_el.2.2.2.2.2.2.2.other W1 (Or.inl (Ne.symm ne_ex_el)))
  refine w_getF X k2729_83_21 (host := "") (Or.inl (wd_162 hw)) Via.refl f7 (fun T X => ?_)
  refine w_ifne X k2729_83_24 (fun hc => absurd rfl hc) (fun _ => ?_)
  refine w_aloadN X k2729_83_27 rfl (rfl) ?_
  refine w_callS X k2729_83_28 (wd_296 hw) (wd_297 hw) (wd_25 hw) (wd_298 hw) (by decide) (argsL := [(.ref ex)]) (S := []) (m_parentOf hw (pv := (.ref el)) rfl f6) pd_5 rfl rfl rfl (by decide) (leR rfl) (by decide) (by decide) (fun T h2 v2 L2 X q2 => ?_)
  obtain ⟨rfl, rfl⟩ := q2
  show Wp _ _ _ _ (T.setTop (mkF _ _ _ [(.ref el)]))
  refine w_aloadN X k2729_83_31 rfl (rfl) ?_
  refine w_callS X k2729_83_32 (wd_296 hw) (wd_297 hw) (wd_25 hw) (wd_298 hw) (by decide) (argsL := [(.ref ex)]) (S := [(.ref el)]) (m_parentOf hw (pv := (.ref el)) rfl f6) pd_5 rfl rfl rfl (by decide) (leR rfl) (by decide) (by decide) (fun T h3 v3 L3 X q3 => ?_)
  obtain ⟨rfl, rfl⟩ := q3
  show Wp _ _ _ _ (T.setTop (mkF _ _ _ [(.ref el), (.ref el)]))
  have f8 := (N_el.2.2.2.2.2.2.1.other W1 (Or.inl (Ne.symm ne_ex_el)))
  refine w_callS X k2729_83_35 (wd_296 hw) (wd_297 hw) (wd_25 hw) (wd_298 hw) (by decide) (argsL := [(.ref el)]) (S := [(.ref el)]) (m_parentOf hw (pv := (.ref er)) rfl f8) pd_5 rfl rfl rfl (by decide) (leR rfl) (by decide) (by decide) (fun T h4 v4 L4 X q4 => ?_)
  obtain ⟨rfl, rfl⟩ := q4
  show Wp _ _ _ _ (T.setTop (mkF _ _ _ [(.ref er), (.ref el)]))
  have f9 := (N_er.2.2.2.2.1.other W1 (Or.inl (Ne.symm ne_ex_er)))
  refine w_callS X k2729_83_38 (wd_299 hw) (wd_300 hw) (wd_25 hw) (wd_301 hw) (by decide) (argsL := [(.ref er)]) (S := [(.ref el)]) (m_leftOf hw (pv := .null) rfl f9) pd_5 rfl rfl rfl (by decide) (leR rfl) (by decide) (by decide) (fun T h5 v5 L5 X q5 => ?_)
  obtain ⟨rfl, rfl⟩ := q5
  show Wp _ _ _ _ (T.setTop (mkF _ _ _ [.null, (.ref el)]))
  refine w_acmpne X (rfl) (rfl) k2729_83_41 (fun _ => ?_) (fun hc => absurd hc (by nofun))
  refine w_aloadN X k2729_83_151 rfl (rfl) ?_
  refine w_callS X k2729_83_152 (wd_296 hw) (wd_297 hw) (wd_25 hw) (wd_298 hw) (by decide) (argsL := [(.ref ex)]) (S := []) (m_parentOf hw (pv := (.ref el)) rfl f6) pd_5 rfl rfl rfl (by decide) (leR rfl) (by decide) (by decide) (fun T h6 v6 L6 X q6 => ?_)
  obtain ⟨rfl, rfl⟩ := q6
  show Wp _ _ _ _ (T.setTop (mkF _ _ _ [(.ref el)]))
  refine w_callS X k2729_83_155 (wd_296 hw) (wd_297 hw) (wd_25 hw) (wd_298 hw) (by decide) (argsL := [(.ref el)]) (S := []) (m_parentOf hw (pv := (.ref er)) rfl f8) pd_5 rfl rfl rfl (by decide) (leR rfl) (by decide) (by decide) (fun T h7 v7 L7 X q7 => ?_)
  obtain ⟨rfl, rfl⟩ := q7
  show Wp _ _ _ _ (T.setTop (mkF _ _ _ [(.ref er)]))
  refine w_callS X k2729_83_158 (wd_299 hw) (wd_300 hw) (wd_25 hw) (wd_301 hw) (by decide) (argsL := [(.ref er)]) (S := []) (m_leftOf hw (pv := .null) rfl f9) pd_5 rfl rfl rfl (by decide) (leR rfl) (by decide) (by decide) (fun T h8 v8 L8 X q8 => ?_)
  obtain ⟨rfl, rfl⟩ := q8
  show Wp _ _ _ _ (T.setTop (mkF _ _ _ [.null]))
  refine w_astoreN X #[.val (.ref tm), .val (.ref ex), .val .null] k2729_83_161 (rfl) rfl ?_
  refine w_aloadN X k2729_83_162 rfl (rfl) ?_
  refine w_callS X k2729_83_163 (wd_302 hw) (wd_303 hw) (wd_25 hw) (wd_304 hw) (by decide) (argsL := [.null]) (S := []) (m_con hw) pd_6 rfl rfl rfl (by decide) (leR rfl) (by decide) (by decide) (fun T h9 v9 L9 X q9 => ?_)
  obtain ⟨rfl, rfl⟩ := q9
  show Wp _ _ _ _ (T.setTop (mkF _ _ _ [(.int (1 : Int32))]))
  refine w_ifne X k2729_83_166 (fun _ => ?_) (fun hc => absurd hc (by decide))
  refine w_aloadN X k2729_83_204 rfl (rfl) ?_
  refine w_aloadN X k2729_83_205 rfl (rfl) ?_
  refine w_callS X k2729_83_206 (wd_296 hw) (wd_297 hw) (wd_25 hw) (wd_298 hw) (by decide) (argsL := [(.ref ex)]) (S := [(.ref ex)]) (m_parentOf hw (pv := (.ref el)) rfl f6) pd_5 rfl rfl rfl (by decide) (leR rfl) (by decide) (by decide) (fun T h10 v10 L10 X q10 => ?_)
  obtain ⟨rfl, rfl⟩ := q10
  show Wp _ _ _ _ (T.setTop (mkF _ _ _ [(.ref el), (.ref ex)]))
  have f10 := (N_el.2.2.2.2.1.other W1 (Or.inl (Ne.symm ne_ex_el)))
  refine w_callS X k2729_83_209 (wd_299 hw) (wd_300 hw) (wd_25 hw) (wd_301 hw) (by decide) (argsL := [(.ref el)]) (S := [(.ref ex)]) (m_leftOf hw (pv := .null) rfl f10) pd_5 rfl rfl rfl (by decide) (leR rfl) (by decide) (by decide) (fun T h11 v11 L11 X q11 => ?_)
  obtain ⟨rfl, rfl⟩ := q11
  show Wp _ _ _ _ (T.setTop (mkF _ _ _ [.null, (.ref ex)]))
  refine w_acmpne X (rfl) (rfl) k2729_83_212 (fun _ => ?_) (fun hc => absurd hc (by nofun))
  refine w_aloadN X k2729_83_225 rfl (rfl) ?_
  refine w_callS X k2729_83_226 (wd_296 hw) (wd_297 hw) (wd_25 hw) (wd_298 hw) (by decide) (argsL := [(.ref ex)]) (S := []) (m_parentOf hw (pv := (.ref el)) rfl f6) pd_5 rfl rfl rfl (by decide) (leR rfl) (by decide) (by decide) (fun T h12 v12 L12 X q12 => ?_)
  obtain ⟨rfl, rfl⟩ := q12
  show Wp _ _ _ _ (T.setTop (mkF _ _ _ [(.ref el)]))
  refine w_iconst X (1 : Int32) k2729_83_229 rfl ?_
  have f11 := (N_el.2.1.wr W1)
  have f12 := (N_el.2.2.1.other W1 (Or.inl (Ne.symm ne_ex_el)))
  have f13 := (N_el.2.2.2.1.other W1 (Or.inl (Ne.symm ne_ex_el)))
  have f14 := (N_el.2.2.2.2.2.1.other W1 (Or.inl (Ne.symm ne_ex_el)))
  have nq15 : own_N Z n0 h1 el kl vl .null (.ref ex) (.ref er) (0 : Int32) := ⟨N_el.1, f11, f12, f13, f10, f14, f8, f7⟩
  refine w_callS X k2729_83_230 (wd_305 hw) (wd_306 hw) (wd_25 hw) (wd_307 hw) (by decide) (argsL := [(.ref el), (.int (1 : Int32))]) (S := []) (m_sc1 hw nq15) pd_7 rfl rfl rfl (by decide) (leR rfl) (by decide) (by decide) (fun T h13 v13 L13 X q13 => ?_)
  obtain ⟨rfl, N_13, Kc13⟩ := q13
  have K16 : Keep h0 h13 [ex, el, er, tm] := K2.trans Kc13 (fun x hx => by cases List.mem_singleton.mp hx; exact (Or.inl (List.mem_of_getElem? (i := 1) rfl)))
  show Wp _ _ _ _ (T.setTop (mkF _ _ _ []))
  refine w_aloadN X k2729_83_233 rfl (rfl) ?_
  have f17 := (f6.keep Kc13 (ni1 ne_ex_el))
  refine w_callS X k2729_83_234 (wd_296 hw) (wd_297 hw) (wd_25 hw) (wd_298 hw) (by decide) (argsL := [(.ref ex)]) (S := []) (m_parentOf hw (pv := (.ref el)) rfl f17) pd_5 rfl rfl rfl (by decide) (leR rfl) (by decide) (by decide) (fun T h14 v14 L14 X q14 => ?_)
  obtain ⟨rfl, rfl⟩ := q14
  show Wp _ _ _ _ (T.setTop (mkF _ _ _ [(.ref el)]))
  refine w_callS X k2729_83_237 (wd_296 hw) (wd_297 hw) (wd_25 hw) (wd_298 hw) (by decide) (argsL := [(.ref el)]) (S := []) (m_parentOf hw (pv := (.ref er)) rfl N_13.2.2.2.2.2.2.1) pd_5 rfl rfl rfl (by decide) (leR rfl) (by decide) (by decide) (fun T h15 v15 L15 X q15 => ?_)
  obtain ⟨rfl, rfl⟩ := q15
  show Wp _ _ _ _ (T.setTop (mkF _ _ _ [(.ref er)]))
  refine w_iconst X (0 : Int32) k2729_83_240 rfl ?_
  have f18 := ((N_er.2.1.wr W1).keep Kc13)
  have f19 := ((N_er.2.2.1.other W1 (Or.inl (Ne.symm ne_ex_er))).keep Kc13 (ni1 (Ne.symm ne_el_er)))
  have f20 := ((N_er.2.2.2.1.other W1 (Or.inl (Ne.symm ne_ex_er))).keep Kc13 (ni1 (Ne.symm ne_el_er)))
  have f21 := (f9.keep Kc13 (ni1 (Ne.symm ne_el_er)))
  have f22 := ((N_er.2.2.2.2.2.1.other W1 (Or.inl (Ne.symm ne_ex_er))).keep Kc13 (ni1 (Ne.symm ne_el_er)))
  have f23 := ((N_er.2.2.2.2.2.2.1.other W1 (Or.inl (Ne.symm ne_ex_er))).keep Kc13 (ni1 (Ne.symm ne_el_er)))
  have f24 := ((N_er.2.2.2.2.2.2.2.other W1 (Or.inl (Ne.symm ne_ex_er))).keep Kc13 (ni1 (Ne.symm ne_el_er)))
  have nq25 : own_N Z n0 h13 er kr vr .null (.ref el) .null (1 : Int32) := ⟨N_er.1, f18, f19, f20, f21, f22, f23, f24⟩
  refine w_callS X k2729_83_241 (wd_305 hw) (wd_306 hw) (wd_25 hw) (wd_307 hw) (by decide) (argsL := [(.ref er), (.int (0 : Int32))]) (S := []) (m_sc0 hw nq25) pd_7 rfl rfl rfl (by decide) (leR rfl) (by decide) (by decide) (fun T h16 v16 L16 X q16 => ?_)
  obtain ⟨rfl, N_16, Kc16⟩ := q16
  have K26 : Keep h0 h16 [ex, el, er, tm] := K16.trans Kc16 (fun x hx => by cases List.mem_singleton.mp hx; exact (Or.inl (List.mem_of_getElem? (i := 2) rfl)))
  show Wp _ _ _ _ (T.setTop (mkF _ _ _ []))
  refine w_aloadN X k2729_83_244 rfl (rfl) ?_
  refine w_aloadN X k2729_83_245 rfl (rfl) ?_
  have f27 := (f17.keep Kc16 (ni1 ne_ex_er))
  refine w_callS X k2729_83_246 (wd_296 hw) (wd_297 hw) (wd_25 hw) (wd_298 hw) (by decide) (argsL := [(.ref ex)]) (S := [(.ref tm)]) (m_parentOf hw (pv := (.ref el)) rfl f27) pd_5 rfl rfl rfl (by decide) (leR rfl) (by decide) (by decide) (fun T h17 v17 L17 X q17 => ?_)
  obtain ⟨rfl, rfl⟩ := q17
  show Wp _ _ _ _ (T.setTop (mkF _ _ _ [(.ref el), (.ref tm)]))
  have f28 := (N_13.2.2.2.2.2.2.1.keep Kc16 (ni1 ne_el_er))
  refine w_callS X k2729_83_249 (wd_296 hw) (wd_297 hw) (wd_25 hw) (wd_298 hw) (by decide) (argsL := [(.ref el)]) (S := [(.ref tm)]) (m_parentOf hw (pv := (.ref er)) rfl f28) pd_5 rfl rfl rfl (by decide) (leR rfl) (by decide) (by decide) (fun T h18 v18 L18 X q18 => ?_)
  obtain ⟨rfl, rfl⟩ := q18
  show Wp _ _ _ _ (T.setTop (mkF _ _ _ [(.ref er), (.ref tm)]))
  have nq29 : own_N Z n0 h16 er kr vr .null (.ref el) .null (0 : Int32) := ⟨N_16.1, N_16.2.1, N_16.2.2.1, N_16.2.2.2.1, N_16.2.2.2.2.1, N_16.2.2.2.2.2.1, N_16.2.2.2.2.2.2.1, N_16.2.2.2.2.2.2.2⟩
  have f30 := (N_13.2.1.keep Kc16)
  have f31 := (N_13.2.2.1.keep Kc16 (ni1 ne_el_er))
  have f32 := (N_13.2.2.2.1.keep Kc16 (ni1 ne_el_er))
  have f33 := (N_13.2.2.2.2.1.keep Kc16 (ni1 ne_el_er))
  have f34 := (N_13.2.2.2.2.2.1.keep Kc16 (ni1 ne_el_er))
  have f35 := (N_13.2.2.2.2.2.2.2.keep Kc16 (ni1 ne_el_er))
  have nq36 : own_N Z n0 h16 el kl vl .null (.ref ex) (.ref er) (1 : Int32) := ⟨N_13.1, f30, f31, f32, f33, f34, f28, f35⟩
  have f37 := ((f3.keep Kc13).keep Kc16)
  have f38 := ((f5.keep Kc13 (ni1 (Exa.ne f37 f30 (by decide)))).keep Kc16 (ni1 (Exa.ne f37 N_16.2.1 (by decide))))
  have f39 := ((f4.keep Kc13).keep Kc16)
  have f40 := (((M0.2.2.2.1.other W1 (Or.inl (Exa.ne f37 f39 (by decide)))).keep Kc13 (ni1 (Exa.ne f37 f30 (by decide)))).keep Kc16 (ni1 (Exa.ne f37 N_16.2.1 (by decide))))
  have f41 := (((M0.2.2.2.2.1.other W1 (Or.inl (Exa.ne f37 f39 (by decide)))).keep Kc13 (ni1 (Exa.ne f37 f30 (by decide)))).keep Kc16 (ni1 (Exa.ne f37 N_16.2.1 (by decide))))
  have f42 := (((M0.2.2.2.2.2.1.other W1 (Or.inl (Exa.ne f37 f39 (by decide)))).keep Kc13 (ni1 (Exa.ne f37 f30 (by decide)))).keep Kc16 (ni1 (Exa.ne f37 N_16.2.1 (by decide))))
  have f43 := (((M0.2.2.2.2.2.2.other W1 (Or.inl (Exa.ne f37 f39 (by decide)))).keep Kc13 (ni1 (Exa.ne f37 f30 (by decide)))).keep Kc16 (ni1 (Exa.ne f37 N_16.2.1 (by decide))))
  have mq44 : own_M Z n0 h16 tm (.ref er) ev sz mc := ⟨M0.1, f37, f38, f40, f41, f42, f43⟩
  refine w_callP X k2729_83_252 (wd_308 hw) (wd_309 hw) (wd_311 hw) (wd_310 hw) (wd_25 hw) (wd_312 hw) (by decide) f37 (argsL := [(.ref er)]) (S := []) (m_rl0 hw nq29 nq36 mq44 (Ne.symm ne_el_er)) pd_8 rfl rfl rfl (by decide) (leR rfl) (by decide) (by decide) (fun T h19 v19 L19 X q19 => ?_)
  obtain ⟨rfl, N_ea_19, N_eb_19, M_19, Kc19⟩ := q19
  have K45 : Keep h0 h19 [ex, el, er, tm] := K26.trans Kc19 (fun x hx => by simp only [List.mem_cons, List.not_mem_nil, or_false] at hx; rcases hx with rfl | rfl | rfl <;> first | exact (Or.inl (List.mem_of_getElem? (i := 2) rfl)) | exact (Or.inl (List.mem_of_getElem? (i := 1) rfl)) | exact (Or.inl (List.mem_of_getElem? (i := 3) rfl)))
  show Wp _ _ _ _ (T.setTop (mkF _ _ _ []))
  refine w_goto X k2729_83_255 ?_
  refine w_aloadN X k2729_83_5 rfl (rfl) ?_
  refine w_ifnullF X k2729_83_6 ?_
  refine w_aloadN X k2729_83_9 rfl (rfl) ?_
  refine w_aloadN X k2729_83_10 rfl (rfl) ?_
  refine w_getF X k2729_83_11 (host := "") (Or.inl (wd_71 hw)) Via.refl M_19.2.2.1 (fun T X => ?_)
  refine w_acmpeq X (rfl) (rfl) k2729_83_14 (fun hc => absurd hc (own_rne ne_ex_el)) (fun _ => ?_)
  refine w_aloadN X k2729_83_17 rfl (rfl) ?_
  have f46 := (f39.keep Kc19)
  have f47 := (f27.keep Kc19 (ni3 ⟨ne_ex_er, ne_ex_el, (Exa.ne f46 M_19.2.1 (by decide))⟩))
  refine w_getF X k2729_83_18 (host := "") (Or.inl (wd_163 hw)) Via.refl f47 (fun T X => ?_)
  refine w_getF X k2729_83_21 (host := "") (Or.inl (wd_162 hw)) Via.refl N_eb_19.2.2.2.2.2.2.2 (fun T X => ?_)
  refine w_ifne X k2729_83_24 (fun _ => ?_) (fun hc => absurd hc (by decide))
  refine w_aloadN X k2729_83_258 rfl (rfl) ?_
  refine w_getF X k2729_83_259 (host := "") (Or.inl (wd_71 hw)) Via.refl M_19.2.2.1 (fun T X => ?_)
  refine w_iconst X (1 : Int32) k2729_83_262 rfl ?_
  refine w_putFN X k2729_83_263 (wd_162 hw) Via.refl N_eb_19.2.2.2.2.2.2.2 N_eb_19.2.1 (Or.inl (wd_113 hw)) (wd_105 hw) (ty := .boolean) (by decide) (.int (1 : Int32)) rfl (by decide) N_eb_19.1 (fun T h20 X W20 => ?_)
  have f48 := N_eb_19.2.2.2.2.2.2.2.same W20
  have K49 : Keep h0 h20 [ex, el, er, tm] := K45.wr W20 (Or.inl (List.mem_of_getElem? (i := 1) rfl))
  have f50 := (f46.wr W20)
  have f51 := (M_19.2.1.wr W20)
  have f52 := (((((N_ex.2.2.1.other W1 (Or.inr (slot_ne (Or.inl (wd_115 hw)) (Or.inl (wd_113 hw)) (by decide) (t := (.object "java/lang/Object")) (t' := .boolean) (by decide) (by decide)))).keep Kc13 (ni1 ne_ex_el)).keep Kc16 (ni1 ne_ex_er)).keep Kc19 (ni3 ⟨ne_ex_er, ne_ex_el, (Exa.ne f50 f51 (by decide))⟩)).other W20 (Or.inl ne_ex_el))
  have f53 := (((((N_ex.2.2.2.1.other W1 (Or.inr (slot_ne (Or.inl (wd_117 hw)) (Or.inl (wd_113 hw)) (by decide) (t := (.object "java/lang/Object")) (t' := .boolean) (by decide) (by decide)))).keep Kc13 (ni1 ne_ex_el)).keep Kc16 (ni1 ne_ex_er)).keep Kc19 (ni3 ⟨ne_ex_er, ne_ex_el, (Exa.ne f50 f51 (by decide))⟩)).other W20 (Or.inl ne_ex_el))
  have f54 := (((((N_ex.2.2.2.2.1.other W1 (Or.inr (slot_ne (Or.inl (wd_220 hw)) (Or.inl (wd_113 hw)) (by decide) (t := (.object "java/util/TreeMap$Entry")) (t' := .boolean) (by decide) (by decide)))).keep Kc13 (ni1 ne_ex_el)).keep Kc16 (ni1 ne_ex_er)).keep Kc19 (ni3 ⟨ne_ex_er, ne_ex_el, (Exa.ne f50 f51 (by decide))⟩)).other W20 (Or.inl ne_ex_el))
  have f55 := (((((N_ex.2.2.2.2.2.1.other W1 (Or.inr (slot_ne (Or.inl (wd_151 hw)) (Or.inl (wd_113 hw)) (by decide) (t := (.object "java/util/TreeMap$Entry")) (t' := .boolean) (by decide) (by decide)))).keep Kc13 (ni1 ne_ex_el)).keep Kc16 (ni1 ne_ex_er)).keep Kc19 (ni3 ⟨ne_ex_er, ne_ex_el, (Exa.ne f50 f51 (by decide))⟩)).other W20 (Or.inl ne_ex_el))
  have f56 := (f47.other W20 (Or.inl ne_ex_el))
  have f57 := ((((f1.keep Kc13 (ni1 ne_ex_el)).keep Kc16 (ni1 ne_ex_er)).keep Kc19 (ni3 ⟨ne_ex_er, ne_ex_el, (Exa.ne f50 f51 (by decide))⟩)).other W20 (Or.inl ne_ex_el))
  have f58 := (N_eb_19.2.1.wr W20)
  have f59 := (N_eb_19.2.2.1.other W20 (Or.inr (slot_ne (Or.inl (wd_115 hw)) (Or.inl (wd_113 hw)) (by decide) (t := (.object "java/lang/Object")) (t' := .boolean) (by decide) (by decide))))
  have f60 := (N_eb_19.2.2.2.1.other W20 (Or.inr (slot_ne (Or.inl (wd_117 hw)) (Or.inl (wd_113 hw)) (by decide) (t := (.object "java/lang/Object")) (t' := .boolean) (by decide) (by decide))))
  have f61 := (N_eb_19.2.2.2.2.1.other W20 (Or.inr (slot_ne (Or.inl (wd_220 hw)) (Or.inl (wd_113 hw)) (by decide) (t := (.object "java/util/TreeMap$Entry")) (t' := .boolean) (by decide) (by decide))))
  have f62 := (N_eb_19.2.2.2.2.2.1.other W20 (Or.inr (slot_ne (Or.inl (wd_151 hw)) (Or.inl (wd_113 hw)) (by decide) (t := (.object "java/util/TreeMap$Entry")) (t' := .boolean) (by decide) (by decide))))
  have f63 := (N_eb_19.2.2.2.2.2.2.1.other W20 (Or.inr (slot_ne (Or.inl (wd_119 hw)) (Or.inl (wd_113 hw)) (by decide) (t := (.object "java/util/TreeMap$Entry")) (t' := .boolean) (by decide) (by decide))))
  have f64 := (N_ea_19.2.1.wr W20)
  have f65 := (N_ea_19.2.2.1.other W20 (Or.inl (Ne.symm ne_el_er)))
  have f66 := (N_ea_19.2.2.2.1.other W20 (Or.inl (Ne.symm ne_el_er)))
  have f67 := (N_ea_19.2.2.2.2.1.other W20 (Or.inl (Ne.symm ne_el_er)))
  have f68 := (N_ea_19.2.2.2.2.2.1.other W20 (Or.inl (Ne.symm ne_el_er)))
  have f69 := (N_ea_19.2.2.2.2.2.2.1.other W20 (Or.inl (Ne.symm ne_el_er)))
  have f70 := (N_ea_19.2.2.2.2.2.2.2.other W20 (Or.inl (Ne.symm ne_el_er)))
  have f71 := (M_19.2.2.1.other W20 (Or.inl (Exa.ne f51 f58 (by decide))))
  have f72 := (M_19.2.2.2.1.other W20 (Or.inl (Exa.ne f51 f58 (by decide))))
  have f73 := (M_19.2.2.2.2.1.other W20 (Or.inl (Exa.ne f51 f58 (by decide))))
  have f74 := (M_19.2.2.2.2.2.1.other W20 (Or.inl (Exa.ne f51 f58 (by decide))))
  have f75 := (M_19.2.2.2.2.2.2.other W20 (Or.inl (Exa.ne f51 f58 (by decide))))
  exact w_retV X k2729_83_266 ⟨rfl, ⟨N_ex.1, f50, f52, f53, f54, f55, f56, f57⟩, ⟨N_eb_19.1, f58, f59, f60, f61, f62, f63, f48⟩, ⟨N_ea_19.1, f64, f65, f66, f67, f68, f69, f70⟩, ⟨M_19.1, f51, f71, f72, f73, f74, f75⟩, K49⟩ (by decide) (by decide)
theorem m_fxrl (hw : own_hw a0 Z) {h0 : Heap} {ex el er tm : Addr} {kx vx kl vl kr vr ev : Value} {cx sz mc : Int32} (N_ex : own_N Z n0 h0 ex kx vx .null .null (.ref el) cx) (N_el : own_N Z n0 h0 el kl vl (.ref ex) .null (.ref er) (0 : Int32)) (N_er : own_N Z n0 h0 er kr vr .null (.ref el) .null (1 : Int32)) (M0 : own_M Z n0 h0 tm (.ref er) ev sz mc) (ne_ex_el : ex ≠ el) (ne_ex_er : ex ≠ er) (ne_el_er : el ≠ er) :
    Does l Z n0 ⟨"java/util/TreeMap", "fixAfterInsertion", "(Ljava/util/TreeMap$Entry;)V"⟩ jdk_2729_method_83_code 3 none [] { frames := 1, cells := 0, slots := 0, locals := 14 } #[(.ref tm), (.ref ex)] h0 (fun v h => v = none ∧ own_N Z n0 h ex kx vx (.ref er) (.ref el) .null (1 : Int32) ∧ own_N Z n0 h el kl vl .null .null (.ref ex) (0 : Int32) ∧ own_N Z n0 h er kr vr .null .null (.ref ex) (0 : Int32) ∧ own_M Z n0 h tm (.ref ex) ev sz mc ∧ Keep h0 h [ex, el, er, tm]) := by
  refine Does.start (plainFor_of_name pn_2) ?_
  intro p e s m below meth c T X
  replace X : Sd _ _ _ _ _ "java/util/TreeMap" "fixAfterInsertion" _ _ _ _ _ _ _ _ _ _ _ _ _ _ _ _ := X
  refine Wp.cast (g' := mkF m 0 #[.val (.ref tm), .val (.ref ex), .unset] []) (by first | (simp [entryFrame, mkF, argsToLocals, Value.category, maxLocals]; done) | rfl) ?_
  refine w_aloadN X k2729_83_0 rfl (rfl) ?_
  refine w_iconst X (0 : Int32) k2729_83_1 rfl ?_
  refine w_putFN X k2729_83_2 (wd_162 hw) Via.refl N_ex.2.2.2.2.2.2.2 N_ex.2.1 (Or.inl (wd_113 hw)) (wd_105 hw) (ty := .boolean) (by decide) (.int (0 : Int32)) rfl (by decide) N_ex.1 (fun T h1 X W1 => ?_)
  have f1 := N_ex.2.2.2.2.2.2.2.same W1
  have K2 : Keep h0 h1 [ex, el, er, tm] := (Keep.refl h0 [ex, el, er, tm]).wr W1 (Or.inl (List.mem_of_getElem? (i := 0) rfl))
  refine w_aloadN X k2729_83_5 rfl (rfl) ?_
  refine w_ifnullF X k2729_83_6 ?_
  refine w_aloadN X k2729_83_9 rfl (rfl) ?_
  refine w_aloadN X k2729_83_10 rfl (rfl) ?_
  have f3 := (M0.2.1.wr W1)
  have f4 := (N_ex.2.1.wr W1)
  have f5 := (M0.2.2.1.other W1 (Or.inl (Exa.ne f3 f4 (by decide))))
  refine w_getF X k2729_83_11 (host := "") (Or.inl (wd_71 hw)) Via.refl f5 (fun T X => ?_)
  refine w_acmpeq X (rfl) (rfl) k2729_83_14 (fun hc => absurd hc (own_rne ne_ex_er)) (fun _ => ?_)
  refine w_aloadN X k2729_83_17 rfl (rfl) ?_
  have f6 := (N_ex.2.2.2.2.2.2.1.other W1 (Or.inr (slot_ne (Or.inl (wd_119 hw)) (Or.inl (wd_113 hw)) (by decide) (t := (.object "java/util/TreeMap$Entry")) (t' := .boolean) (by decide) (by decide))))
  refine w_getF X k2729_83_18 (host := "") (Or.inl (wd_163 hw)) Via.refl f6 (fun T X => ?_)
  have f7 := (N_el.2.2.2.2.2.2.2.other W1 (Or.inl (Ne.symm ne_ex_el)))
  refine w_getF X k2729_83_21 (host := "") (Or.inl (wd_162 hw)) Via.refl f7 (fun T X => ?_)
  refine w_ifne X k2729_83_24 (fun hc => absurd rfl hc) (fun _ => ?_)
  refine w_aloadN X k2729_83_27 rfl (rfl) ?_
  refine w_callS X k2729_83_28 (wd_296 hw) (wd_297 hw) (wd_25 hw) (wd_298 hw) (by decide) (argsL := [(.ref ex)]) (S := []) (m_parentOf hw (pv := (.ref el)) rfl f6) pd_5 rfl rfl rfl (by decide) (leR rfl) (by decide) (by decide) (fun T h2 v2 L2 X q2 => ?_)
  obtain ⟨rfl, rfl⟩ := q2
  show Wp _ _ _ _ (T.setTop (mkF _ _ _ [(.ref el)]))
  refine w_aloadN X k2729_83_31 rfl (rfl) ?_
  refine w_callS X k2729_83_32 (wd_296 hw) (wd_297 hw) (wd_25 hw) (wd_298 hw) (by decide) (argsL := [(.ref ex)]) (S := [(.ref el)]) (m_parentOf hw (pv := (.ref el)) rfl f6) pd_5 rfl rfl rfl (by decide) (leR rfl) (by decide) (by decide) (fun T h3 v3 L3 X q3 => ?_)
  obtain ⟨rfl, rfl⟩ := q3
  show Wp _ _ _ _ (T.setTop (mkF _ _ _ [(.ref el), (.ref el)]))
  have f8 := (N_el.2.2.2.2.2.2.1.other W1 (Or.inl (Ne.symm ne_ex_el)))
  refine w_callS X k2729_83_35 (wd_296 hw) (wd_297 hw) (wd_25 hw) (wd_298 hw) (by decide) (argsL := [(.ref el)]) (S := [(.ref el)]) (m_parentOf hw (pv := (.ref er)) rfl f8) pd_5 rfl rfl rfl (by decide) (leR rfl) (by decide) (by decide) (fun T h4 v4 L4 X q4 => ?_)
  obtain ⟨rfl, rfl⟩ := q4
  show Wp _ _ _ _ (T.setTop (mkF _ _ _ [(.ref er), (.ref el)]))
  have f9 := (N_er.2.2.2.2.1.other W1 (Or.inl (Ne.symm ne_ex_er)))
  refine w_callS X k2729_83_38 (wd_299 hw) (wd_300 hw) (wd_25 hw) (wd_301 hw) (by decide) (argsL := [(.ref er)]) (S := [(.ref el)]) (m_leftOf hw (pv := .null) rfl f9) pd_5 rfl rfl rfl (by decide) (leR rfl) (by decide) (by decide) (fun T h5 v5 L5 X q5 => ?_)
  obtain ⟨rfl, rfl⟩ := q5
  show Wp _ _ _ _ (T.setTop (mkF _ _ _ [.null, (.ref el)]))
  refine w_acmpne X (rfl) (rfl) k2729_83_41 (fun _ => ?_) (fun hc => absurd hc (by nofun))
  refine w_aloadN X k2729_83_151 rfl (rfl) ?_
  refine w_callS X k2729_83_152 (wd_296 hw) (wd_297 hw) (wd_25 hw) (wd_298 hw) (by decide) (argsL := [(.ref ex)]) (S := []) (m_parentOf hw (pv := (.ref el)) rfl f6) pd_5 rfl rfl rfl (by decide) (leR rfl) (by decide) (by decide) (fun T h6 v6 L6 X q6 => ?_)
  obtain ⟨rfl, rfl⟩ := q6
  show Wp _ _ _ _ (T.setTop (mkF _ _ _ [(.ref el)]))
  refine w_callS X k2729_83_155 (wd_296 hw) (wd_297 hw) (wd_25 hw) (wd_298 hw) (by decide) (argsL := [(.ref el)]) (S := []) (m_parentOf hw (pv := (.ref er)) rfl f8) pd_5 rfl rfl rfl (by decide) (leR rfl) (by decide) (by decide) (fun T h7 v7 L7 X q7 => ?_)
  obtain ⟨rfl, rfl⟩ := q7
  show Wp _ _ _ _ (T.setTop (mkF _ _ _ [(.ref er)]))
  refine w_callS X k2729_83_158 (wd_299 hw) (wd_300 hw) (wd_25 hw) (wd_301 hw) (by decide) (argsL := [(.ref er)]) (S := []) (m_leftOf hw (pv := .null) rfl f9) pd_5 rfl rfl rfl (by decide) (leR rfl) (by decide) (by decide) (fun T h8 v8 L8 X q8 => ?_)
  obtain ⟨rfl, rfl⟩ := q8
  show Wp _ _ _ _ (T.setTop (mkF _ _ _ [.null]))
  refine w_astoreN X #[.val (.ref tm), .val (.ref ex), .val .null] k2729_83_161 (rfl) rfl ?_
  refine w_aloadN X k2729_83_162 rfl (rfl) ?_
  refine w_callS X k2729_83_163 (wd_302 hw) (wd_303 hw) (wd_25 hw) (wd_304 hw) (by decide) (argsL := [.null]) (S := []) (m_con hw) pd_6 rfl rfl rfl (by decide) (leR rfl) (by decide) (by decide) (fun T h9 v9 L9 X q9 => ?_)
  obtain ⟨rfl, rfl⟩ := q9
  show Wp _ _ _ _ (T.setTop (mkF _ _ _ [(.int (1 : Int32))]))
  refine w_ifne X k2729_83_166 (fun _ => ?_) (fun hc => absurd hc (by decide))
  refine w_aloadN X k2729_83_204 rfl (rfl) ?_
  refine w_aloadN X k2729_83_205 rfl (rfl) ?_
  refine w_callS X k2729_83_206 (wd_296 hw) (wd_297 hw) (wd_25 hw) (wd_298 hw) (by decide) (argsL := [(.ref ex)]) (S := [(.ref ex)]) (m_parentOf hw (pv := (.ref el)) rfl f6) pd_5 rfl rfl rfl (by decide) (leR rfl) (by decide) (by decide) (fun T h10 v10 L10 X q10 => ?_)
  obtain ⟨rfl, rfl⟩ := q10
  show Wp _ _ _ _ (T.setTop (mkF _ _ _ [(.ref el), (.ref ex)]))
  have f10 := (N_el.2.2.2.2.1.other W1 (Or.inl (Ne.symm ne_ex_el)))
  refine w_callS X k2729_83_209 (wd_299 hw) (wd_300 hw) (wd_25 hw) (wd_301 hw) (by decide) (argsL := [(.ref el)]) (S := [(.ref ex)]) (m_leftOf hw (pv := (.ref ex)) rfl f10) pd_5 rfl rfl rfl (by decide) (leR rfl) (by decide) (by decide) (fun T h11 v11 L11 X q11 => ?_)
  obtain ⟨rfl, rfl⟩ := q11
  show Wp _ _ _ _ (T.setTop (mkF _ _ _ [(.ref ex), (.ref ex)]))
  refine w_acmpne X (rfl) (rfl) k2729_83_212 (fun hc => absurd rfl hc) (fun _ => ?_)
  refine w_aloadN X k2729_83_215 rfl (rfl) ?_
  refine w_callS X k2729_83_216 (wd_296 hw) (wd_297 hw) (wd_25 hw) (wd_298 hw) (by decide) (argsL := [(.ref ex)]) (S := []) (m_parentOf hw (pv := (.ref el)) rfl f6) pd_5 rfl rfl rfl (by decide) (leR rfl) (by decide) (by decide) (fun T h12 v12 L12 X q12 => ?_)
  obtain ⟨rfl, rfl⟩ := q12
  show Wp _ _ _ _ (T.setTop (mkF _ _ _ [(.ref el)]))
  refine w_astoreN X #[.val (.ref tm), .val (.ref el), .val .null] k2729_83_219 (rfl) rfl ?_
  refine w_aloadN X k2729_83_220 rfl (rfl) ?_
  refine w_aloadN X k2729_83_221 rfl (rfl) ?_
  have f11 := (N_el.2.1.wr W1)
  have f12 := (N_el.2.2.1.other W1 (Or.inl (Ne.symm ne_ex_el)))
  have f13 := (N_el.2.2.2.1.other W1 (Or.inl (Ne.symm ne_ex_el)))
  have f14 := (N_el.2.2.2.2.2.1.other W1 (Or.inl (Ne.symm ne_ex_el)))
  have nq15 : own_N Z n0 h1 el kl vl (.ref ex) .null (.ref er) (0 : Int32) := ⟨N_el.1, f11, f12, f13, f10, f14, f8, f7⟩
  have f16 := (N_ex.2.2.1.other W1 (Or.inr (slot_ne (Or.inl (wd_115 hw)) (Or.inl (wd_113 hw)) (by decide) (t := (.object "java/lang/Object")) (t' := .boolean) (by decide) (by decide))))
  have f17 := (N_ex.2.2.2.1.other W1 (Or.inr (slot_ne (Or.inl (wd_117 hw)) (Or.inl (wd_113 hw)) (by decide) (t := (.object "java/lang/Object")) (t' := .boolean) (by decide) (by decide))))
  have f18 := (N_ex.2.2.2.2.1.other W1 (Or.inr (slot_ne (Or.inl (wd_220 hw)) (Or.inl (wd_113 hw)) (by decide) (t := (.object "java/util/TreeMap$Entry")) (t' := .boolean) (by decide) (by decide))))
  have f19 := (N_ex.2.2.2.2.2.1.other W1 (Or.inr (slot_ne (Or.inl (wd_151 hw)) (Or.inl (wd_113 hw)) (by decide) (t := (.object "java/util/TreeMap$Entry")) (t' := .boolean) (by decide) (by decide))))
  have nq20 : own_N Z n0 h1 ex kx vx .null .null (.ref el) (0 : Int32) := ⟨N_ex.1, f4, f16, f17, f18, f19, f6, f1⟩
  have f21 := (N_er.2.1.wr W1)
  have f22 := (N_er.2.2.1.other W1 (Or.inl (Ne.symm ne_ex_er)))
  have f23 := (N_er.2.2.2.1.other W1 (Or.inl (Ne.symm ne_ex_er)))
  have f24 := (N_er.2.2.2.2.2.1.other W1 (Or.inl (Ne.symm ne_ex_er)))
  have f25 := (N_er.2.2.2.2.2.2.1.other W1 (Or.inl (Ne.symm ne_ex_er)))
  have f26 := (N_er.2.2.2.2.2.2.2.other W1 (Or.inl (Ne.symm ne_ex_er)))
  have nq27 : own_N Z n0 h1 er kr vr .null (.ref el) .null (1 : Int32) := ⟨N_er.1, f21, f22, f23, f9, f24, f25, f26⟩
  refine w_callP X k2729_83_222 (wd_313 hw) (wd_314 hw) (wd_316 hw) (wd_315 hw) (wd_25 hw) (wd_317 hw) (by decide) f3 (argsL := [(.ref el)]) (S := []) (m_rr1 hw nq15 nq20 nq27 f3 (Ne.symm ne_ex_el) ne_el_er ne_ex_er) pd_8 rfl rfl rfl (by decide) (leR rfl) (by decide) (by decide) (fun T h13 v13 L13 X q13 => ?_)
  obtain ⟨rfl, N_ea_13, N_eb_13, N_ec_13, Kc13⟩ := q13
  have K28 : Keep h0 h13 [ex, el, er, tm] := K2.trans Kc13 (fun x hx => by simp only [List.mem_cons, List.not_mem_nil, or_false] at hx; rcases hx with rfl | rfl | rfl <;> first | exact (Or.inl (List.mem_of_getElem? (i := 1) rfl)) | exact (Or.inl (List.mem_of_getElem? (i := 0) rfl)) | exact (Or.inl (List.mem_of_getElem? (i := 2) rfl)))
  show Wp _ _ _ _ (T.setTop (mkF _ _ _ []))
  refine w_aloadN X k2729_83_225 rfl (rfl) ?_
  refine w_callS X k2729_83_226 (wd_296 hw) (wd_297 hw) (wd_25 hw) (wd_298 hw) (by decide) (argsL := [(.ref el)]) (S := []) (m_parentOf hw (pv := (.ref ex)) rfl N_ea_13.2.2.2.2.2.2.1) pd_5 rfl rfl rfl (by decide) (leR rfl) (by decide) (by decide) (fun T h14 v14 L14 X q14 => ?_)
  obtain ⟨rfl, rfl⟩ := q14
  show Wp _ _ _ _ (T.setTop (mkF _ _ _ [(.ref ex)]))
  refine w_iconst X (1 : Int32) k2729_83_229 rfl ?_
  have nq29 : own_N Z n0 h13 ex kx vx .null (.ref el) (.ref er) (0 : Int32) := ⟨N_eb_13.1, N_eb_13.2.1, N_eb_13.2.2.1, N_eb_13.2.2.2.1, N_eb_13.2.2.2.2.1, N_eb_13.2.2.2.2.2.1, N_eb_13.2.2.2.2.2.2.1, N_eb_13.2.2.2.2.2.2.2⟩
  refine w_callS X k2729_83_230 (wd_305 hw) (wd_306 hw) (wd_25 hw) (wd_307 hw) (by decide) (argsL := [(.ref ex), (.int (1 : Int32))]) (S := []) (m_sc1 hw nq29) pd_7 rfl rfl rfl (by decide) (leR rfl) (by decide) (by decide) (fun T h15 v15 L15 X q15 => ?_)
  obtain ⟨rfl, N_15, Kc15⟩ := q15
  have K30 : Keep h0 h15 [ex, el, er, tm] := K28.trans Kc15 (fun x hx => by cases List.mem_singleton.mp hx; exact (Or.inl (List.mem_of_getElem? (i := 0) rfl)))
  show Wp _ _ _ _ (T.setTop (mkF _ _ _ []))
  refine w_aloadN X k2729_83_233 rfl (rfl) ?_
  have f31 := (N_ea_13.2.2.2.2.2.2.1.keep Kc15 (ni1 (Ne.symm ne_ex_el)))
  refine w_callS X k2729_83_234 (wd_296 hw) (wd_297 hw) (wd_25 hw) (wd_298 hw) (by decide) (argsL := [(.ref el)]) (S := []) (m_parentOf hw (pv := (.ref ex)) rfl f31) pd_5 rfl rfl rfl (by decide) (leR rfl) (by decide) (by decide) (fun T h16 v16 L16 X q16 => ?_)
  obtain ⟨rfl, rfl⟩ := q16
  show Wp _ _ _ _ (T.setTop (mkF _ _ _ [(.ref ex)]))
  refine w_callS X k2729_83_237 (wd_296 hw) (wd_297 hw) (wd_25 hw) (wd_298 hw) (by decide) (argsL := [(.ref ex)]) (S := []) (m_parentOf hw (pv := (.ref er)) rfl N_15.2.2.2.2.2.2.1) pd_5 rfl rfl rfl (by decide) (leR rfl) (by decide) (by decide) (fun T h17 v17 L17 X q17 => ?_)
  obtain ⟨rfl, rfl⟩ := q17
  show Wp _ _ _ _ (T.setTop (mkF _ _ _ [(.ref er)]))
  refine w_iconst X (0 : Int32) k2729_83_240 rfl ?_
  have f32 := (N_ec_13.2.1.keep Kc15)
  have f33 := (N_ec_13.2.2.1.keep Kc15 (ni1 (Ne.symm ne_ex_er)))
  have f34 := (N_ec_13.2.2.2.1.keep Kc15 (ni1 (Ne.symm ne_ex_er)))
  have f35 := (N_ec_13.2.2.2.2.1.keep Kc15 (ni1 (Ne.symm ne_ex_er)))
  have f36 := (N_ec_13.2.2.2.2.2.1.keep Kc15 (ni1 (Ne.symm ne_ex_er)))
  have f37 := (N_ec_13.2.2.2.2.2.2.1.keep Kc15 (ni1 (Ne.symm ne_ex_er)))
  have f38 := (N_ec_13.2.2.2.2.2.2.2.keep Kc15 (ni1 (Ne.symm ne_ex_er)))
  have nq39 : own_N Z n0 h15 er kr vr .null (.ref ex) .null (1 : Int32) := ⟨N_ec_13.1, f32, f33, f34, f35, f36, f37, f38⟩
  refine w_callS X k2729_83_241 (wd_305 hw) (wd_306 hw) (wd_25 hw) (wd_307 hw) (by decide) (argsL := [(.ref er), (.int (0 : Int32))]) (S := []) (m_sc0 hw nq39) pd_7 rfl rfl rfl (by decide) (leR rfl) (by decide) (by decide) (fun T h18 v18 L18 X q18 => ?_)
  obtain ⟨rfl, N_18, Kc18⟩ := q18
  have K40 : Keep h0 h18 [ex, el, er, tm] := K30.trans Kc18 (fun x hx => by cases List.mem_singleton.mp hx; exact (Or.inl (List.mem_of_getElem? (i := 2) rfl)))
  show Wp _ _ _ _ (T.setTop (mkF _ _ _ []))
  refine w_aloadN X k2729_83_244 rfl (rfl) ?_
  refine w_aloadN X k2729_83_245 rfl (rfl) ?_
  have f41 := (f31.keep Kc18 (ni1 ne_el_er))
  refine w_callS X k2729_83_246 (wd_296 hw) (wd_297 hw) (wd_25 hw) (wd_298 hw) (by decide) (argsL := [(.ref el)]) (S := [(.ref tm)]) (m_parentOf hw (pv := (.ref ex)) rfl f41) pd_5 rfl rfl rfl (by decide) (leR rfl) (by decide) (by decide) (fun T h19 v19 L19 X q19 => ?_)
  obtain ⟨rfl, rfl⟩ := q19
  show Wp _ _ _ _ (T.setTop (mkF _ _ _ [(.ref ex), (.ref tm)]))
  have f42 := (N_15.2.2.2.2.2.2.1.keep Kc18 (ni1 ne_ex_er))
  refine w_callS X k2729_83_249 (wd_296 hw) (wd_297 hw) (wd_25 hw) (wd_298 hw) (by decide) (argsL := [(.ref ex)]) (S := [(.ref tm)]) (m_parentOf hw (pv := (.ref er)) rfl f42) pd_5 rfl rfl rfl (by decide) (leR rfl) (by decide) (by decide) (fun T h20 v20 L20 X q20 => ?_)
  obtain ⟨rfl, rfl⟩ := q20
  show Wp _ _ _ _ (T.setTop (mkF _ _ _ [(.ref er), (.ref tm)]))
  have nq43 : own_N Z n0 h18 er kr vr .null (.ref ex) .null (0 : Int32) := ⟨N_18.1, N_18.2.1, N_18.2.2.1, N_18.2.2.2.1, N_18.2.2.2.2.1, N_18.2.2.2.2.2.1, N_18.2.2.2.2.2.2.1, N_18.2.2.2.2.2.2.2⟩
  have f44 := (N_15.2.1.keep Kc18)
  have f45 := (N_15.2.2.1.keep Kc18 (ni1 ne_ex_er))
  have f46 := (N_15.2.2.2.1.keep Kc18 (ni1 ne_ex_er))
  have f47 := (N_15.2.2.2.2.1.keep Kc18 (ni1 ne_ex_er))
  have f48 := (N_15.2.2.2.2.2.1.keep Kc18 (ni1 ne_ex_er))
  have f49 := (N_15.2.2.2.2.2.2.2.keep Kc18 (ni1 ne_ex_er))
  have nq50 : own_N Z n0 h18 ex kx vx .null (.ref el) (.ref er) (1 : Int32) := ⟨N_15.1, f44, f45, f46, f47, f48, f42, f49⟩
  have f51 := (((f3.keep Kc13).keep Kc15).keep Kc18)
  have f52 := ((N_ea_13.2.1.keep Kc15).keep Kc18)
  have f53 := (((f5.keep Kc13 (ni3 ⟨(Exa.ne f51 f52 (by decide)), (Exa.ne f51 f44 (by decide)), (Exa.ne f51 N_18.2.1 (by decide))⟩)).keep Kc15 (ni1 (Exa.ne f51 f44 (by decide)))).keep Kc18 (ni1 (Exa.ne f51 N_18.2.1 (by decide))))
  have f54 := ((((M0.2.2.2.1.other W1 (Or.inl (Exa.ne f51 f44 (by decide)))).keep Kc13 (ni3 ⟨(Exa.ne f51 f52 (by decide)), (Exa.ne f51 f44 (by decide)), (Exa.ne f51 N_18.2.1 (by decide))⟩)).keep Kc15 (ni1 (Exa.ne f51 f44 (by decide)))).keep Kc18 (ni1 (Exa.ne f51 N_18.2.1 (by decide))))
  have f55 := ((((M0.2.2.2.2.1.other W1 (Or.inl (Exa.ne f51 f44 (by decide)))).keep Kc13 (ni3 ⟨(Exa.ne f51 f52 (by decide)), (Exa.ne f51 f44 (by decide)), (Exa.ne f51 N_18.2.1 (by decide))⟩)).keep Kc15 (ni1 (Exa.ne f51 f44 (by decide)))).keep Kc18 (ni1 (Exa.ne f51 N_18.2.1 (by decide))))
  have f56 := ((((M0.2.2.2.2.2.1.other W1 (Or.inl (Exa.ne f51 f44 (by decide)))).keep Kc13 (ni3 ⟨(Exa.ne f51 f52 (by decide)), (Exa.ne f51 f44 (by decide)), (Exa.ne f51 N_18.2.1 (by decide))⟩)).keep Kc15 (ni1 (Exa.ne f51 f44 (by decide)))).keep Kc18 (ni1 (Exa.ne f51 N_18.2.1 (by decide))))
  have f57 := ((((M0.2.2.2.2.2.2.other W1 (Or.inl (Exa.ne f51 f44 (by decide)))).keep Kc13 (ni3 ⟨(Exa.ne f51 f52 (by decide)), (Exa.ne f51 f44 (by decide)), (Exa.ne f51 N_18.2.1 (by decide))⟩)).keep Kc15 (ni1 (Exa.ne f51 f44 (by decide)))).keep Kc18 (ni1 (Exa.ne f51 N_18.2.1 (by decide))))
  have mq58 : own_M Z n0 h18 tm (.ref er) ev sz mc := ⟨M0.1, f51, f53, f54, f55, f56, f57⟩
  refine w_callP X k2729_83_252 (wd_308 hw) (wd_309 hw) (wd_311 hw) (wd_310 hw) (wd_25 hw) (wd_312 hw) (by decide) f51 (argsL := [(.ref er)]) (S := []) (m_rl0 hw nq43 nq50 mq58 (Ne.symm ne_ex_er)) pd_8 rfl rfl rfl (by decide) (leR rfl) (by decide) (by decide) (fun T h21 v21 L21 X q21 => ?_)
  obtain ⟨rfl, N_ea_21, N_eb_21, M_21, Kc21⟩ := q21
  have K59 : Keep h0 h21 [ex, el, er, tm] := K40.trans Kc21 (fun x hx => by simp only [List.mem_cons, List.not_mem_nil, or_false] at hx; rcases hx with rfl | rfl | rfl <;> first | exact (Or.inl (List.mem_of_getElem? (i := 2) rfl)) | exact (Or.inl (List.mem_of_getElem? (i := 0) rfl)) | exact (Or.inl (List.mem_of_getElem? (i := 3) rfl)))
  show Wp _ _ _ _ (T.setTop (mkF _ _ _ []))
  refine w_goto X k2729_83_255 ?_
  refine w_aloadN X k2729_83_5 rfl (rfl) ?_
  refine w_ifnullF X k2729_83_6 ?_
  refine w_aloadN X k2729_83_9 rfl (rfl) ?_
  refine w_aloadN X k2729_83_10 rfl (rfl) ?_
  refine w_getF X k2729_83_11 (host := "") (Or.inl (wd_71 hw)) Via.refl M_21.2.2.1 (fun T X => ?_)
  refine w_acmpeq X (rfl) (rfl) k2729_83_14 (fun hc => absurd hc (own_rne (Ne.symm ne_ex_el))) (fun _ => ?_)
  refine w_aloadN X k2729_83_17 rfl (rfl) ?_
  have f60 := (f52.keep Kc21)
  have f61 := (f41.keep Kc21 (ni3 ⟨ne_el_er, (Ne.symm ne_ex_el), (Exa.ne f60 M_21.2.1 (by decide))⟩))
  refine w_getF X k2729_83_18 (host := "") (Or.inl (wd_163 hw)) Via.refl f61 (fun T X => ?_)
  refine w_getF X k2729_83_21 (host := "") (Or.inl (wd_162 hw)) Via.refl N_eb_21.2.2.2.2.2.2.2 (fun T X => ?_)
  refine w_ifne X k2729_83_24 (fun _ => ?_) (fun hc => absurd hc (by decide))
  refine w_aloadN X k2729_83_258 rfl (rfl) ?_
  refine w_getF X k2729_83_259 (host := "") (Or.inl (wd_71 hw)) Via.refl M_21.2.2.1 (fun T X => ?_)
  refine w_iconst X (1 : Int32) k2729_83_262 rfl ?_
  refine w_putFN X k2729_83_263 (wd_162 hw) Via.refl N_eb_21.2.2.2.2.2.2.2 N_eb_21.2.1 (Or.inl (wd_113 hw)) (wd_105 hw) (ty := .boolean) (by decide) (.int (1 : Int32)) rfl (by decide) N_eb_21.1 (fun T h22 X W22 => ?_)
  have f62 := N_eb_21.2.2.2.2.2.2.2.same W22
  have K63 : Keep h0 h22 [ex, el, er, tm] := K59.wr W22 (Or.inl (List.mem_of_getElem? (i := 0) rfl))
  have f64 := (N_eb_21.2.1.wr W22)
  have f65 := (N_eb_21.2.2.1.other W22 (Or.inr (slot_ne (Or.inl (wd_115 hw)) (Or.inl (wd_113 hw)) (by decide) (t := (.object "java/lang/Object")) (t' := .boolean) (by decide) (by decide))))
  have f66 := (N_eb_21.2.2.2.1.other W22 (Or.inr (slot_ne (Or.inl (wd_117 hw)) (Or.inl (wd_113 hw)) (by decide) (t := (.object "java/lang/Object")) (t' := .boolean) (by decide) (by decide))))
  have f67 := (N_eb_21.2.2.2.2.1.other W22 (Or.inr (slot_ne (Or.inl (wd_220 hw)) (Or.inl (wd_113 hw)) (by decide) (t := (.object "java/util/TreeMap$Entry")) (t' := .boolean) (by decide) (by decide))))
  have f68 := (N_eb_21.2.2.2.2.2.1.other W22 (Or.inr (slot_ne (Or.inl (wd_151 hw)) (Or.inl (wd_113 hw)) (by decide) (t := (.object "java/util/TreeMap$Entry")) (t' := .boolean) (by decide) (by decide))))
  have f69 := (N_eb_21.2.2.2.2.2.2.1.other W22 (Or.inr (slot_ne (Or.inl (wd_119 hw)) (Or.inl (wd_113 hw)) (by decide) (t := (.object "java/util/TreeMap$Entry")) (t' := .boolean) (by decide) (by decide))))
  have f70 := (f60.wr W22)
  have f71 := (M_21.2.1.wr W22)
  have f72 := ((((N_ea_13.2.2.1.keep Kc15 (ni1 (Ne.symm ne_ex_el))).keep Kc18 (ni1 ne_el_er)).keep Kc21 (ni3 ⟨ne_el_er, (Ne.symm ne_ex_el), (Exa.ne f70 f71 (by decide))⟩)).other W22 (Or.inl (Ne.symm ne_ex_el)))
  have f73 := ((((N_ea_13.2.2.2.1.keep Kc15 (ni1 (Ne.symm ne_ex_el))).keep Kc18 (ni1 ne_el_er)).keep Kc21 (ni3 ⟨ne_el_er, (Ne.symm ne_ex_el), (Exa.ne f70 f71 (by decide))⟩)).other W22 (Or.inl (Ne.symm ne_ex_el)))
  have f74 := ((((N_ea_13.2.2.2.2.1.keep Kc15 (ni1 (Ne.symm ne_ex_el))).keep Kc18 (ni1 ne_el_er)).keep Kc21 (ni3 ⟨ne_el_er, (Ne.symm ne_ex_el), (Exa.ne f70 f71 (by decide))⟩)).other W22 (Or.inl (Ne.symm ne_ex_el)))
  have f75 := ((((N_ea_13.2.2.2.2.2.1.keep Kc15 (ni1 (Ne.symm ne_ex_el))).keep Kc18 (ni1 ne_el_er)).keep Kc21 (ni3 ⟨ne_el_er, (Ne.symm ne_ex_el), (Exa.ne f70 f71 (by decide))⟩)).other W22 (Or.inl (Ne.symm ne_ex_el)))
  have f76 := (f61.other W22 (Or.inl (Ne.symm ne_ex_el)))
  have f77 := ((((N_ea_13.2.2.2.2.2.2.2.keep Kc15 (ni1 (Ne.symm ne_ex_el))).keep Kc18 (ni1 ne_el_er)).keep Kc21 (ni3 ⟨ne_el_er, (Ne.symm ne_ex_el), (Exa.ne f70 f71 (by decide))⟩)).other W22 (Or.inl (Ne.symm ne_ex_el)))
  have f78 := (N_ea_21.2.1.wr W22)
  have f79 := (N_ea_21.2.2.1.other W22 (Or.inl (Ne.symm ne_ex_er)))
  have f80 := (N_ea_21.2.2.2.1.other W22 (Or.inl (Ne.symm ne_ex_er)))
  have f81 := (N_ea_21.2.2.2.2.1.other W22 (Or.inl (Ne.symm ne_ex_er)))
  have f82 := (N_ea_21.2.2.2.2.2.1.other W22 (Or.inl (Ne.symm ne_ex_er)))
  have f83 := (N_ea_21.2.2.2.2.2.2.1.other W22 (Or.inl (Ne.symm ne_ex_er)))
  have f84 := (N_ea_21.2.2.2.2.2.2.2.other W22 (Or.inl (Ne.symm ne_ex_er)))
  have f85 := (M_21.2.2.1.other W22 (Or.inl (Exa.ne f71 f64 (by decide))))
  have f86 := (M_21.2.2.2.1.other W22 (Or.inl (Exa.ne f71 f64 (by decide))))
  have f87 := (M_21.2.2.2.2.1.other W22 (Or.inl (Exa.ne f71 f64 (by decide))))
  have f88 := (M_21.2.2.2.2.2.1.other W22 (Or.inl (Exa.ne f71 f64 (by decide))))
  have f89 := (M_21.2.2.2.2.2.2.other W22 (Or.inl (Exa.ne f71 f64 (by decide))))
  exact w_retV X k2729_83_266 ⟨rfl, ⟨N_eb_21.1, f64, f65, f66, f67, f68, f69, f62⟩, ⟨N_ea_13.1, f70, f72, f73, f74, f75, f76, f77⟩, ⟨N_ea_21.1, f78, f79, f80, f81, f82, f83, f84⟩, ⟨M_21.1, f71, f85, f86, f87, f88, f89⟩, K63⟩ (by decide) (by decide)
theorem m_aeal (hw : own_hw a0 Z) {h0 : Heap} {er tm ka va : Addr} {kr vr rr ev : Value} {sz mc : Int32} (N_er : own_N Z n0 h0 er kr vr .null rr .null (1 : Int32)) (M0 : own_M Z n0 h0 tm (.ref er) ev sz mc) :
    Does l Z n0 ⟨"java/util/TreeMap", "addEntry", "(Ljava/lang/Object;Ljava/lang/Object;Ljava/util/TreeMap$Entry;Z)V"⟩ jdk_2729_method_29_code 6 none [] { frames := 2, cells := 1, slots := 6, locals := 28 } #[(.ref tm), (.ref ka), (.ref va), (.ref er), (.int (1 : Int32))] h0 (fun v h => v = none ∧ ∃ ex, h0.size ≤ ex ∧ own_N Z n0 h ex (.ref ka) (.ref va) .null .null (.ref er) (0 : Int32) ∧ own_N Z n0 h er kr vr (.ref ex) rr .null (1 : Int32) ∧ own_M Z n0 h tm (.ref er) ev (sz + (1 : Int32)) (mc + (1 : Int32)) ∧ Keep h0 h [er, tm]) := by
  refine Does.start (plainFor_of_name pn_2) ?_
  intro p e s m below meth c T X
  replace X : Sd _ _ _ _ _ "java/util/TreeMap" "addEntry" _ _ _ _ _ _ _ _ _ _ _ _ _ _ _ _ := X
  refine Wp.cast (g' := mkF m 0 #[.val (.ref tm), .val (.ref ka), .val (.ref va), .val (.ref er), .val (.int (1 : Int32)), .unset] []) (by first | (simp [entryFrame, mkF, argsToLocals, Value.category, maxLocals]; done) | rfl) ?_
  refine w_new X k2729_29_0 (wd_104 hw) (wd_105 hw) (wd_106 hw) (by decide) (by decide) (fun T h1 b1 g1 gn1 X E1 A1 D1 => ?_)
  have sz_b1 : h0.size ≤ b1 := Nat.le_trans (Keep.refl h0 [er, tm]).1 (Nat.le_of_eq g1.symm)
  have K1 : Keep h0 h1 [er, tm] := (Keep.refl h0 [er, tm]).ext E1
  refine w_dup X k2729_29_3 rfl ?_
  refine w_aloadN X k2729_29_4 rfl (rfl) ?_
  refine w_aloadN X k2729_29_5 rfl (rfl) ?_
  refine w_aloadN X k2729_29_6 rfl (rfl) ?_
  have nq2 : own_N Z n0 h1 b1 .null .null .null .null .null (0 : Int32) := ⟨gn1, A1, (show Fld Z h1 b1 "java/util/TreeMap$Entry" "key" "Ljava/lang/Object;" .null from D1 (Or.inl (wd_115 hw)) (ty := (.object "java/lang/Object")) (by decide)), (show Fld Z h1 b1 "java/util/TreeMap$Entry" "value" "Ljava/lang/Object;" .null from D1 (Or.inl (wd_117 hw)) (ty := (.object "java/lang/Object")) (by decide)), (show Fld Z h1 b1 "java/util/TreeMap$Entry" "left" "Ljava/util/TreeMap$Entry;" .null from D1 (Or.inl (wd_220 hw)) (ty := (.object "java/util/TreeMap$Entry")) (by decide)), (show Fld Z h1 b1 "java/util/TreeMap$Entry" "right" "Ljava/util/TreeMap$Entry;" .null from D1 (Or.inl (wd_151 hw)) (ty := (.object "java/util/TreeMap$Entry")) (by decide)), (show Fld Z h1 b1 "java/util/TreeMap$Entry" "parent" "Ljava/util/TreeMap$Entry;" .null from D1 (Or.inl (wd_119 hw)) (ty := (.object "java/util/TreeMap$Entry")) (by decide)), (show Fld Z h1 b1 "java/util/TreeMap$Entry" "color" "Z" (.int (0 : Int32)) from D1 (Or.inl (wd_113 hw)) (ty := .boolean) (by decide))⟩
  refine w_callI X k2729_29_7 rfl (wd_107 hw) (wd_108 hw) (wd_106 hw) (wd_110 hw) (by decide) (argsL := [(.ref ka), (.ref va), (.ref er)]) (S := [(.ref b1)]) (m_eir hw nq2) pd_9 rfl rfl rfl (by decide) (leR rfl) (by decide) (by decide) (fun T h2 v2 L2 X q2 => ?_)
  obtain ⟨rfl, N_2, Kc2⟩ := q2
  have K3 : Keep h0 h2 [er, tm] := K1.trans Kc2 (fun x hx => by cases List.mem_singleton.mp hx; exact (Or.inr sz_b1))
  show Wp _ _ _ _ (T.setTop (mkF _ _ _ [(.ref b1)]))
  refine w_astore X #[.val (.ref tm), .val (.ref ka), .val (.ref va), .val (.ref er), .val (.int (1 : Int32)), .val (.ref b1)] k2729_29_10 (rfl) rfl ?_
  refine w_iload X k2729_29_12 rfl ?_
  refine w_ifeq X k2729_29_14 (fun hc => absurd hc (by decide)) (fun _ => ?_)
  refine w_aloadN X k2729_29_17 rfl (rfl) ?_
  refine w_aload X k2729_29_18 rfl (rfl) ?_
  have f4 := ((N_er.2.1.ext E1).keep Kc2)
  have f5 := ((N_er.2.2.2.2.1.ext E1).keep Kc2 (ni1 (Nat.ne_of_lt (Nat.lt_of_lt_of_le N_er.2.1.lt (Nat.le_of_eq g1.symm)))))
  refine w_putF X k2729_29_20 (host := "") (Or.inl (wd_219 hw)) Via.refl f5 f4 (Or.inl (wd_220 hw)) (wd_105 hw) (ty := (.object "java/util/TreeMap$Entry")) (by decide) rfl rfl N_er.1 (fun T h3 X W3 => ?_)
  have f6 := f5.same W3
  have K7 : Keep h0 h3 [er, tm] := K3.wr W3 (Or.inl (List.mem_of_getElem? (i := 0) rfl))
  refine w_goto X k2729_29_23 ?_
  refine w_aloadN X k2729_29_32 rfl (rfl) ?_
  refine w_aload X k2729_29_33 rfl (rfl) ?_
  have f8 := (N_2.2.1.wr W3)
  have f9 := (N_2.2.2.1.other W3 (Or.inl (Ne.symm (Nat.ne_of_lt (Nat.lt_of_lt_of_le N_er.2.1.lt (Nat.le_of_eq g1.symm))))))
  have f10 := (N_2.2.2.2.1.other W3 (Or.inl (Ne.symm (Nat.ne_of_lt (Nat.lt_of_lt_of_le N_er.2.1.lt (Nat.le_of_eq g1.symm))))))
  have f11 := (N_2.2.2.2.2.1.other W3 (Or.inl (Ne.symm (Nat.ne_of_lt (Nat.lt_of_lt_of_le N_er.2.1.lt (Nat.le_of_eq g1.symm))))))
  have f12 := (N_2.2.2.2.2.2.1.other W3 (Or.inl (Ne.symm (Nat.ne_of_lt (Nat.lt_of_lt_of_le N_er.2.1.lt (Nat.le_of_eq g1.symm))))))
  have f13 := (N_2.2.2.2.2.2.2.1.other W3 (Or.inl (Ne.symm (Nat.ne_of_lt (Nat.lt_of_lt_of_le N_er.2.1.lt (Nat.le_of_eq g1.symm))))))
  have f14 := (N_2.2.2.2.2.2.2.2.other W3 (Or.inl (Ne.symm (Nat.ne_of_lt (Nat.lt_of_lt_of_le N_er.2.1.lt (Nat.le_of_eq g1.symm))))))
  have nq15 : own_N Z n0 h3 b1 (.ref ka) (.ref va) .null .null (.ref er) (1 : Int32) := ⟨N_2.1, f8, f9, f10, f11, f12, f13, f14⟩
  have f16 := (f4.wr W3)
  have f17 := (((N_er.2.2.1.ext E1).keep Kc2 (ni1 (Nat.ne_of_lt (Nat.lt_of_lt_of_le N_er.2.1.lt (Nat.le_of_eq g1.symm))))).other W3 (Or.inr (slot_ne (Or.inl (wd_115 hw)) (Or.inl (wd_220 hw)) (by decide) (t := (.object "java/lang/Object")) (t' := (.object "java/util/TreeMap$Entry")) (by decide) (by decide))))
  have f18 := (((N_er.2.2.2.1.ext E1).keep Kc2 (ni1 (Nat.ne_of_lt (Nat.lt_of_lt_of_le N_er.2.1.lt (Nat.le_of_eq g1.symm))))).other W3 (Or.inr (slot_ne (Or.inl (wd_117 hw)) (Or.inl (wd_220 hw)) (by decide) (t := (.object "java/lang/Object")) (t' := (.object "java/util/TreeMap$Entry")) (by decide) (by decide))))
  have f19 := (((N_er.2.2.2.2.2.1.ext E1).keep Kc2 (ni1 (Nat.ne_of_lt (Nat.lt_of_lt_of_le N_er.2.1.lt (Nat.le_of_eq g1.symm))))).other W3 (Or.inr (slot_ne (Or.inl (wd_151 hw)) (Or.inl (wd_220 hw)) (by decide) (t := (.object "java/util/TreeMap$Entry")) (t' := (.object "java/util/TreeMap$Entry")) (by decide) (by decide))))
  have f20 := (((N_er.2.2.2.2.2.2.1.ext E1).keep Kc2 (ni1 (Nat.ne_of_lt (Nat.lt_of_lt_of_le N_er.2.1.lt (Nat.le_of_eq g1.symm))))).other W3 (Or.inr (slot_ne (Or.inl (wd_119 hw)) (Or.inl (wd_220 hw)) (by decide) (t := (.object "java/util/TreeMap$Entry")) (t' := (.object "java/util/TreeMap$Entry")) (by decide) (by decide))))
  have f21 := (((N_er.2.2.2.2.2.2.2.ext E1).keep Kc2 (ni1 (Nat.ne_of_lt (Nat.lt_of_lt_of_le N_er.2.1.lt (Nat.le_of_eq g1.symm))))).other W3 (Or.inr (slot_ne (Or.inl (wd_113 hw)) (Or.inl (wd_220 hw)) (by decide) (t := .boolean) (t' := (.object "java/util/TreeMap$Entry")) (by decide) (by decide))))
  have nq22 : own_N Z n0 h3 er kr vr (.ref b1) rr .null (1 : Int32) := ⟨N_er.1, f16, f17, f18, f6, f19, f20, f21⟩
  have f23 := (((M0.2.1.ext E1).keep Kc2).wr W3)
  have f24 := (((M0.2.2.1.ext E1).keep Kc2 (ni1 (Exa.ne f23 f8 (by decide)))).other W3 (Or.inl (Exa.ne f23 f16 (by decide))))
  have f25 := (((M0.2.2.2.1.ext E1).keep Kc2 (ni1 (Exa.ne f23 f8 (by decide)))).other W3 (Or.inl (Exa.ne f23 f16 (by decide))))
  have f26 := (((M0.2.2.2.2.1.ext E1).keep Kc2 (ni1 (Exa.ne f23 f8 (by decide)))).other W3 (Or.inl (Exa.ne f23 f16 (by decide))))
  have f27 := (((M0.2.2.2.2.2.1.ext E1).keep Kc2 (ni1 (Exa.ne f23 f8 (by decide)))).other W3 (Or.inl (Exa.ne f23 f16 (by decide))))
  have f28 := (((M0.2.2.2.2.2.2.ext E1).keep Kc2 (ni1 (Exa.ne f23 f8 (by decide)))).other W3 (Or.inl (Exa.ne f23 f16 (by decide))))
  have mq29 : own_M Z n0 h3 tm (.ref er) ev sz mc := ⟨M0.1, f23, f24, f25, f26, f27, f28⟩
  refine w_callP X k2729_29_35 (wd_157 hw) (wd_158 hw) (wd_160 hw) (wd_159 hw) (wd_25 hw) (wd_161 hw) (by decide) f23 (argsL := [(.ref b1)]) (S := []) (m_fxa hw nq15 nq22 mq29 (Ne.symm (Nat.ne_of_lt (Nat.lt_of_lt_of_le N_er.2.1.lt (Nat.le_of_eq g1.symm))))) pd_8 rfl rfl rfl (by decide) (leR rfl) (by decide) (by decide) (fun T h4 v4 L4 X q4 => ?_)
  obtain ⟨rfl, N_ex_4, N_er_4, M_4, Kc4⟩ := q4
  have K30 : Keep h0 h4 [er, tm] := K7.trans Kc4 (fun x hx => by simp only [List.mem_cons, List.not_mem_nil, or_false] at hx; rcases hx with rfl | rfl | rfl <;> first | exact (Or.inr sz_b1) | exact (Or.inl (List.mem_of_getElem? (i := 0) rfl)) | exact (Or.inl (List.mem_of_getElem? (i := 1) rfl)))
  show Wp _ _ _ _ (T.setTop (mkF _ _ _ []))
  refine w_aloadN X k2729_29_38 rfl (rfl) ?_
  refine w_dup X k2729_29_39 rfl ?_
  refine w_getF X k2729_29_40 (host := "") (Or.inl (wd_36 hw)) Via.refl M_4.2.2.2.1 (fun T X => ?_)
  refine w_iconst X (1 : Int32) k2729_29_43 rfl ?_
  refine w_iadd X k2729_29_44 ?_
  refine w_putF X k2729_29_45 (host := "") (Or.inl (wd_36 hw)) Via.refl M_4.2.2.2.1 M_4.2.1 (Or.inl (wd_37 hw)) (wd_24 hw) (ty := .int) (by decide) rfl rfl M_4.1 (fun T h5 X W5 => ?_)
  have f31 := M_4.2.2.2.1.same W5
  have K32 : Keep h0 h5 [er, tm] := K30.wr W5 (Or.inl (List.mem_of_getElem? (i := 1) rfl))
  refine w_aloadN X k2729_29_48 rfl (rfl) ?_
  refine w_dup X k2729_29_49 rfl ?_
  have f33 := (M_4.2.2.2.2.1.other W5 (Or.inr (slot_ne (Or.inl (wd_39 hw)) (Or.inl (wd_37 hw)) (by decide) (t := .int) (t' := .int) (by decide) (by decide))))
  refine w_getF X k2729_29_50 (host := "") (Or.inl (wd_38 hw)) Via.refl f33 (fun T X => ?_)
  refine w_iconst X (1 : Int32) k2729_29_53 rfl ?_
  refine w_iadd X k2729_29_54 ?_
  have f34 := (M_4.2.1.wr W5)
  refine w_putF X k2729_29_55 (host := "") (Or.inl (wd_38 hw)) Via.refl f33 f34 (Or.inl (wd_39 hw)) (wd_24 hw) (ty := .int) (by decide) rfl rfl M_4.1 (fun T h6 X W6 => ?_)
  have f35 := f33.same W6
  have K36 : Keep h0 h6 [er, tm] := K32.wr W6 (Or.inl (List.mem_of_getElem? (i := 1) rfl))
  have f37 := ((N_ex_4.2.1.wr W5).wr W6)
  have f38 := (f34.wr W6)
  have f39 := ((N_ex_4.2.2.1.other W5 (Or.inl (Exa.ne f37 f38 (by decide)))).other W6 (Or.inl (Exa.ne f37 f38 (by decide))))
  have f40 := ((N_ex_4.2.2.2.1.other W5 (Or.inl (Exa.ne f37 f38 (by decide)))).other W6 (Or.inl (Exa.ne f37 f38 (by decide))))
  have f41 := ((N_ex_4.2.2.2.2.1.other W5 (Or.inl (Exa.ne f37 f38 (by decide)))).other W6 (Or.inl (Exa.ne f37 f38 (by decide))))
  have f42 := ((N_ex_4.2.2.2.2.2.1.other W5 (Or.inl (Exa.ne f37 f38 (by decide)))).other W6 (Or.inl (Exa.ne f37 f38 (by decide))))
  have f43 := ((N_ex_4.2.2.2.2.2.2.1.other W5 (Or.inl (Exa.ne f37 f38 (by decide)))).other W6 (Or.inl (Exa.ne f37 f38 (by decide))))
  have f44 := ((N_ex_4.2.2.2.2.2.2.2.other W5 (Or.inl (Exa.ne f37 f38 (by decide)))).other W6 (Or.inl (Exa.ne f37 f38 (by decide))))
  have f45 := ((N_er_4.2.1.wr W5).wr W6)
  have f46 := ((N_er_4.2.2.1.other W5 (Or.inl (Exa.ne f45 f38 (by decide)))).other W6 (Or.inl (Exa.ne f45 f38 (by decide))))
  have f47 := ((N_er_4.2.2.2.1.other W5 (Or.inl (Exa.ne f45 f38 (by decide)))).other W6 (Or.inl (Exa.ne f45 f38 (by decide))))
  have f48 := ((N_er_4.2.2.2.2.1.other W5 (Or.inl (Exa.ne f45 f38 (by decide)))).other W6 (Or.inl (Exa.ne f45 f38 (by decide))))
  have f49 := ((N_er_4.2.2.2.2.2.1.other W5 (Or.inl (Exa.ne f45 f38 (by decide)))).other W6 (Or.inl (Exa.ne f45 f38 (by decide))))
  have f50 := ((N_er_4.2.2.2.2.2.2.1.other W5 (Or.inl (Exa.ne f45 f38 (by decide)))).other W6 (Or.inl (Exa.ne f45 f38 (by decide))))
  have f51 := ((N_er_4.2.2.2.2.2.2.2.other W5 (Or.inl (Exa.ne f45 f38 (by decide)))).other W6 (Or.inl (Exa.ne f45 f38 (by decide))))
  have f52 := ((M_4.2.2.1.other W5 (Or.inr (slot_ne (Or.inl (wd_72 hw)) (Or.inl (wd_37 hw)) (by decide) (t := (.object "java/util/TreeMap$Entry")) (t' := .int) (by decide) (by decide)))).other W6 (Or.inr (slot_ne (Or.inl (wd_72 hw)) (Or.inl (wd_39 hw)) (by decide) (t := (.object "java/util/TreeMap$Entry")) (t' := .int) (by decide) (by decide))))
  have f53 := (f31.other W6 (Or.inr (slot_ne (Or.inl (wd_37 hw)) (Or.inl (wd_39 hw)) (by decide) (t := .int) (t' := .int) (by decide) (by decide))))
  have f54 := ((M_4.2.2.2.2.2.1.other W5 (Or.inr (slot_ne (Or.inr (wd_41 hw)) (Or.inl (wd_37 hw)) (by decide) (t := (.object "java/util/Comparator")) (t' := .int) (by decide) (by decide)))).other W6 (Or.inr (slot_ne (Or.inr (wd_41 hw)) (Or.inl (wd_39 hw)) (by decide) (t := (.object "java/util/Comparator")) (t' := .int) (by decide) (by decide))))
  have f55 := ((M_4.2.2.2.2.2.2.other W5 (Or.inr (slot_ne (Or.inl (wd_179 hw)) (Or.inl (wd_37 hw)) (by decide) (t := (.object "java/util/TreeMap$EntrySet")) (t' := .int) (by decide) (by decide)))).other W6 (Or.inr (slot_ne (Or.inl (wd_179 hw)) (Or.inl (wd_39 hw)) (by decide) (t := (.object "java/util/TreeMap$EntrySet")) (t' := .int) (by decide) (by decide))))
  exact w_retV X k2729_29_58 ⟨rfl, b1, sz_b1, ⟨N_ex_4.1, f37, f39, f40, f41, f42, f43, f44⟩, ⟨N_er_4.1, f45, f46, f47, f48, f49, f50, f51⟩, ⟨M_4.1, f38, f52, f53, f35, f54, f55⟩, K36⟩ (by decide) (by decide)
theorem m_aear (hw : own_hw a0 Z) {h0 : Heap} {er tm ka va : Addr} {kr vr lr ev : Value} {sz mc : Int32} (N_er : own_N Z n0 h0 er kr vr lr .null .null (1 : Int32)) (M0 : own_M Z n0 h0 tm (.ref er) ev sz mc) :
    Does l Z n0 ⟨"java/util/TreeMap", "addEntry", "(Ljava/lang/Object;Ljava/lang/Object;Ljava/util/TreeMap$Entry;Z)V"⟩ jdk_2729_method_29_code 6 none [] { frames := 2, cells := 1, slots := 6, locals := 28 } #[(.ref tm), (.ref ka), (.ref va), (.ref er), (.int (0 : Int32))] h0 (fun v h => v = none ∧ ∃ ex, h0.size ≤ ex ∧ own_N Z n0 h ex (.ref ka) (.ref va) .null .null (.ref er) (0 : Int32) ∧ own_N Z n0 h er kr vr lr (.ref ex) .null (1 : Int32) ∧ own_M Z n0 h tm (.ref er) ev (sz + (1 : Int32)) (mc + (1 : Int32)) ∧ Keep h0 h [er, tm]) := by
  refine Does.start (plainFor_of_name pn_2) ?_
  intro p e s m below meth c T X
  replace X : Sd _ _ _ _ _ "java/util/TreeMap" "addEntry" _ _ _ _ _ _ _ _ _ _ _ _ _ _ _ _ := X
  refine Wp.cast (g' := mkF m 0 #[.val (.ref tm), .val (.ref ka), .val (.ref va), .val (.ref er), .val (.int (0 : Int32)), .unset] []) (by first | (simp [entryFrame, mkF, argsToLocals, Value.category, maxLocals]; done) | rfl) ?_
  refine w_new X k2729_29_0 (wd_104 hw) (wd_105 hw) (wd_106 hw) (by decide) (by decide) (fun T h1 b1 g1 gn1 X E1 A1 D1 => ?_)
  have sz_b1 : h0.size ≤ b1 := Nat.le_trans (Keep.refl h0 [er, tm]).1 (Nat.le_of_eq g1.symm)
  have K1 : Keep h0 h1 [er, tm] := (Keep.refl h0 [er, tm]).ext E1
  refine w_dup X k2729_29_3 rfl ?_
  refine w_aloadN X k2729_29_4 rfl (rfl) ?_
  refine w_aloadN X k2729_29_5 rfl (rfl) ?_
  refine w_aloadN X k2729_29_6 rfl (rfl) ?_
  have nq2 : own_N Z n0 h1 b1 .null .null .null .null .null (0 : Int32) := ⟨gn1, A1, (show Fld Z h1 b1 "java/util/TreeMap$Entry" "key" "Ljava/lang/Object;" .null from D1 (Or.inl (wd_115 hw)) (ty := (.object "java/lang/Object")) (by decide)), (show Fld Z h1 b1 "java/util/TreeMap$Entry" "value" "Ljava/lang/Object;" .null from D1 (Or.inl (wd_117 hw)) (ty := (.object "java/lang/Object")) (by decide)), (show Fld Z h1 b1 "java/util/TreeMap$Entry" "left" "Ljava/util/TreeMap$Entry;" .null from D1 (Or.inl (wd_220 hw)) (ty := (.object "java/util/TreeMap$Entry")) (by decide)), (show Fld Z h1 b1 "java/util/TreeMap$Entry" "right" "Ljava/util/TreeMap$Entry;" .null from D1 (Or.inl (wd_151 hw)) (ty := (.object "java/util/TreeMap$Entry")) (by decide)), (show Fld Z h1 b1 "java/util/TreeMap$Entry" "parent" "Ljava/util/TreeMap$Entry;" .null from D1 (Or.inl (wd_119 hw)) (ty := (.object "java/util/TreeMap$Entry")) (by decide)), (show Fld Z h1 b1 "java/util/TreeMap$Entry" "color" "Z" (.int (0 : Int32)) from D1 (Or.inl (wd_113 hw)) (ty := .boolean) (by decide))⟩
  refine w_callI X k2729_29_7 rfl (wd_107 hw) (wd_108 hw) (wd_106 hw) (wd_110 hw) (by decide) (argsL := [(.ref ka), (.ref va), (.ref er)]) (S := [(.ref b1)]) (m_eir hw nq2) pd_9 rfl rfl rfl (by decide) (leR rfl) (by decide) (by decide) (fun T h2 v2 L2 X q2 => ?_)
  obtain ⟨rfl, N_2, Kc2⟩ := q2
  have K3 : Keep h0 h2 [er, tm] := K1.trans Kc2 (fun x hx => by cases List.mem_singleton.mp hx; exact (Or.inr sz_b1))
  show Wp _ _ _ _ (T.setTop (mkF _ _ _ [(.ref b1)]))
  refine w_astore X #[.val (.ref tm), .val (.ref ka), .val (.ref va), .val (.ref er), .val (.int (0 : Int32)), .val (.ref b1)] k2729_29_10 (rfl) rfl ?_
  refine w_iload X k2729_29_12 rfl ?_
  refine w_ifeq X k2729_29_14 (fun _ => ?_) (fun hc => absurd rfl hc)
  refine w_aloadN X k2729_29_26 rfl (rfl) ?_
  refine w_aload X k2729_29_27 rfl (rfl) ?_
  have f4 := ((N_er.2.1.ext E1).keep Kc2)
  have f5 := ((N_er.2.2.2.2.2.1.ext E1).keep Kc2 (ni1 (Nat.ne_of_lt (Nat.lt_of_lt_of_le N_er.2.1.lt (Nat.le_of_eq g1.symm)))))
  refine w_putF X k2729_29_29 (host := "") (Or.inl (wd_150 hw)) Via.refl f5 f4 (Or.inl (wd_151 hw)) (wd_105 hw) (ty := (.object "java/util/TreeMap$Entry")) (by decide) rfl rfl N_er.1 (fun T h3 X W3 => ?_)
  have f6 := f5.same W3
  have K7 : Keep h0 h3 [er, tm] := K3.wr W3 (Or.inl (List.mem_of_getElem? (i := 0) rfl))
  refine w_aloadN X k2729_29_32 rfl (rfl) ?_
  refine w_aload X k2729_29_33 rfl (rfl) ?_
  have f8 := (N_2.2.1.wr W3)
  have f9 := (N_2.2.2.1.other W3 (Or.inl (Ne.symm (Nat.ne_of_lt (Nat.lt_of_lt_of_le N_er.2.1.lt (Nat.le_of_eq g1.symm))))))
  have f10 := (N_2.2.2.2.1.other W3 (Or.inl (Ne.symm (Nat.ne_of_lt (Nat.lt_of_lt_of_le N_er.2.1.lt (Nat.le_of_eq g1.symm))))))
  have f11 := (N_2.2.2.2.2.1.other W3 (Or.inl (Ne.symm (Nat.ne_of_lt (Nat.lt_of_lt_of_le N_er.2.1.lt (Nat.le_of_eq g1.symm))))))
  have f12 := (N_2.2.2.2.2.2.1.other W3 (Or.inl (Ne.symm (Nat.ne_of_lt (Nat.lt_of_lt_of_le N_er.2.1.lt (Nat.le_of_eq g1.symm))))))
  have f13 := (N_2.2.2.2.2.2.2.1.other W3 (Or.inl (Ne.symm (Nat.ne_of_lt (Nat.lt_of_lt_of_le N_er.2.1.lt (Nat.le_of_eq g1.symm))))))
  have f14 := (N_2.2.2.2.2.2.2.2.other W3 (Or.inl (Ne.symm (Nat.ne_of_lt (Nat.lt_of_lt_of_le N_er.2.1.lt (Nat.le_of_eq g1.symm))))))
  have nq15 : own_N Z n0 h3 b1 (.ref ka) (.ref va) .null .null (.ref er) (1 : Int32) := ⟨N_2.1, f8, f9, f10, f11, f12, f13, f14⟩
  have f16 := (f4.wr W3)
  have f17 := (((N_er.2.2.1.ext E1).keep Kc2 (ni1 (Nat.ne_of_lt (Nat.lt_of_lt_of_le N_er.2.1.lt (Nat.le_of_eq g1.symm))))).other W3 (Or.inr (slot_ne (Or.inl (wd_115 hw)) (Or.inl (wd_151 hw)) (by decide) (t := (.object "java/lang/Object")) (t' := (.object "java/util/TreeMap$Entry")) (by decide) (by decide))))
  have f18 := (((N_er.2.2.2.1.ext E1).keep Kc2 (ni1 (Nat.ne_of_lt (Nat.lt_of_lt_of_le N_er.2.1.lt (Nat.le_of_eq g1.symm))))).other W3 (Or.inr (slot_ne (Or.inl (wd_117 hw)) (Or.inl (wd_151 hw)) (by decide) (t := (.object "java/lang/Object")) (t' := (.object "java/util/TreeMap$Entry")) (by decide) (by decide))))
  have f19 := (((N_er.2.2.2.2.1.ext E1).keep Kc2 (ni1 (Nat.ne_of_lt (Nat.lt_of_lt_of_le N_er.2.1.lt (Nat.le_of_eq g1.symm))))).other W3 (Or.inr (slot_ne (Or.inl (wd_220 hw)) (Or.inl (wd_151 hw)) (by decide) (t := (.object "java/util/TreeMap$Entry")) (t' := (.object "java/util/TreeMap$Entry")) (by decide) (by decide))))
  have f20 := (((N_er.2.2.2.2.2.2.1.ext E1).keep Kc2 (ni1 (Nat.ne_of_lt (Nat.lt_of_lt_of_le N_er.2.1.lt (Nat.le_of_eq g1.symm))))).other W3 (Or.inr (slot_ne (Or.inl (wd_119 hw)) (Or.inl (wd_151 hw)) (by decide) (t := (.object "java/util/TreeMap$Entry")) (t' := (.object "java/util/TreeMap$Entry")) (by decide) (by decide))))
  have f21 := (((N_er.2.2.2.2.2.2.2.ext E1).keep Kc2 (ni1 (Nat.ne_of_lt (Nat.lt_of_lt_of_le N_er.2.1.lt (Nat.le_of_eq g1.symm))))).other W3 (Or.inr (slot_ne (Or.inl (wd_113 hw)) (Or.inl (wd_151 hw)) (by decide) (t := .boolean) (t' := (.object "java/util/TreeMap$Entry")) (by decide) (by decide))))
  have nq22 : own_N Z n0 h3 er kr vr lr (.ref b1) .null (1 : Int32) := ⟨N_er.1, f16, f17, f18, f19, f6, f20, f21⟩
  have f23 := (((M0.2.1.ext E1).keep Kc2).wr W3)
  have f24 := (((M0.2.2.1.ext E1).keep Kc2 (ni1 (Exa.ne f23 f8 (by decide)))).other W3 (Or.inl (Exa.ne f23 f16 (by decide))))
  have f25 := (((M0.2.2.2.1.ext E1).keep Kc2 (ni1 (Exa.ne f23 f8 (by decide)))).other W3 (Or.inl (Exa.ne f23 f16 (by decide))))
  have f26 := (((M0.2.2.2.2.1.ext E1).keep Kc2 (ni1 (Exa.ne f23 f8 (by decide)))).other W3 (Or.inl (Exa.ne f23 f16 (by decide))))
  have f27 := (((M0.2.2.2.2.2.1.ext E1).keep Kc2 (ni1 (Exa.ne f23 f8 (by decide)))).other W3 (Or.inl (Exa.ne f23 f16 (by decide))))
  have f28 := (((M0.2.2.2.2.2.2.ext E1).keep Kc2 (ni1 (Exa.ne f23 f8 (by decide)))).other W3 (Or.inl (Exa.ne f23 f16 (by decide))))
  have mq29 : own_M Z n0 h3 tm (.ref er) ev sz mc := ⟨M0.1, f23, f24, f25, f26, f27, f28⟩
  refine w_callP X k2729_29_35 (wd_157 hw) (wd_158 hw) (wd_160 hw) (wd_159 hw) (wd_25 hw) (wd_161 hw) (by decide) f23 (argsL := [(.ref b1)]) (S := []) (m_fxa hw nq15 nq22 mq29 (Ne.symm (Nat.ne_of_lt (Nat.lt_of_lt_of_le N_er.2.1.lt (Nat.le_of_eq g1.symm))))) pd_8 rfl rfl rfl (by decide) (leR rfl) (by decide) (by decide) (fun T h4 v4 L4 X q4 => ?_)
  obtain ⟨rfl, N_ex_4, N_er_4, M_4, Kc4⟩ := q4
  have K30 : Keep h0 h4 [er, tm] := K7.trans Kc4 (fun x hx => by simp only [List.mem_cons, List.not_mem_nil, or_false] at hx; rcases hx with rfl | rfl | rfl <;> first | exact (Or.inr sz_b1) | exact (Or.inl (List.mem_of_getElem? (i := 0) rfl)) | exact (Or.inl (List.mem_of_getElem? (i := 1) rfl)))
  show Wp _ _ _ _ (T.setTop (mkF _ _ _ []))
  refine w_aloadN X k2729_29_38 rfl (rfl) ?_
  refine w_dup X k2729_29_39 rfl ?_
  refine w_getF X k2729_29_40 (host := "") (Or.inl (wd_36 hw)) Via.refl M_4.2.2.2.1 (fun T X => ?_)
  refine w_iconst X (1 : Int32) k2729_29_43 rfl ?_
  refine w_iadd X k2729_29_44 ?_
  refine w_putF X k2729_29_45 (host := "") (Or.inl (wd_36 hw)) Via.refl M_4.2.2.2.1 M_4.2.1 (Or.inl (wd_37 hw)) (wd_24 hw) (ty := .int) (by decide) rfl rfl M_4.1 (fun T h5 X W5 => ?_)
  have f31 := M_4.2.2.2.1.same W5
  have K32 : Keep h0 h5 [er, tm] := K30.wr W5 (Or.inl (List.mem_of_getElem? (i := 1) rfl))
  refine w_aloadN X k2729_29_48 rfl (rfl) ?_
  refine w_dup X k2729_29_49 rfl ?_
  have f33 := (M_4.2.2.2.2.1.other W5 (Or.inr (slot_ne (Or.inl (wd_39 hw)) (Or.inl (wd_37 hw)) (by decide) (t := .int) (t' := .int) (by decide) (by decide))))
  refine w_getF X k2729_29_50 (host := "") (Or.inl (wd_38 hw)) Via.refl f33 (fun T X => ?_)
  refine w_iconst X (1 : Int32) k2729_29_53 rfl ?_
  refine w_iadd X k2729_29_54 ?_
  have f34 := (M_4.2.1.wr W5)
  refine w_putF X k2729_29_55 (host := "") (Or.inl (wd_38 hw)) Via.refl f33 f34 (Or.inl (wd_39 hw)) (wd_24 hw) (ty := .int) (by decide) rfl rfl M_4.1 (fun T h6 X W6 => ?_)
  have f35 := f33.same W6
  have K36 : Keep h0 h6 [er, tm] := K32.wr W6 (Or.inl (List.mem_of_getElem? (i := 1) rfl))
  have f37 := ((N_ex_4.2.1.wr W5).wr W6)
  have f38 := (f34.wr W6)
  have f39 := ((N_ex_4.2.2.1.other W5 (Or.inl (Exa.ne f37 f38 (by decide)))).other W6 (Or.inl (Exa.ne f37 f38 (by decide))))
  have f40 := ((N_ex_4.2.2.2.1.other W5 (Or.inl (Exa.ne f37 f38 (by decide)))).other W6 (Or.inl (Exa.ne f37 f38 (by decide))))
  have f41 := ((N_ex_4.2.2.2.2.1.other W5 (Or.inl (Exa.ne f37 f38 (by decide)))).other W6 (Or.inl (Exa.ne f37 f38 (by decide))))
  have f42 := ((N_ex_4.2.2.2.2.2.1.other W5 (Or.inl (Exa.ne f37 f38 (by decide)))).other W6 (Or.inl (Exa.ne f37 f38 (by decide))))
  have f43 := ((N_ex_4.2.2.2.2.2.2.1.other W5 (Or.inl (Exa.ne f37 f38 (by decide)))).other W6 (Or.inl (Exa.ne f37 f38 (by decide))))
  have f44 := ((N_ex_4.2.2.2.2.2.2.2.other W5 (Or.inl (Exa.ne f37 f38 (by decide)))).other W6 (Or.inl (Exa.ne f37 f38 (by decide))))
  have f45 := ((N_er_4.2.1.wr W5).wr W6)
  have f46 := ((N_er_4.2.2.1.other W5 (Or.inl (Exa.ne f45 f38 (by decide)))).other W6 (Or.inl (Exa.ne f45 f38 (by decide))))
  have f47 := ((N_er_4.2.2.2.1.other W5 (Or.inl (Exa.ne f45 f38 (by decide)))).other W6 (Or.inl (Exa.ne f45 f38 (by decide))))
  have f48 := ((N_er_4.2.2.2.2.1.other W5 (Or.inl (Exa.ne f45 f38 (by decide)))).other W6 (Or.inl (Exa.ne f45 f38 (by decide))))
  have f49 := ((N_er_4.2.2.2.2.2.1.other W5 (Or.inl (Exa.ne f45 f38 (by decide)))).other W6 (Or.inl (Exa.ne f45 f38 (by decide))))
  have f50 := ((N_er_4.2.2.2.2.2.2.1.other W5 (Or.inl (Exa.ne f45 f38 (by decide)))).other W6 (Or.inl (Exa.ne f45 f38 (by decide))))
  have f51 := ((N_er_4.2.2.2.2.2.2.2.other W5 (Or.inl (Exa.ne f45 f38 (by decide)))).other W6 (Or.inl (Exa.ne f45 f38 (by decide))))
  have f52 := ((M_4.2.2.1.other W5 (Or.inr (slot_ne (Or.inl (wd_72 hw)) (Or.inl (wd_37 hw)) (by decide) (t := (.object "java/util/TreeMap$Entry")) (t' := .int) (by decide) (by decide)))).other W6 (Or.inr (slot_ne (Or.inl (wd_72 hw)) (Or.inl (wd_39 hw)) (by decide) (t := (.object "java/util/TreeMap$Entry")) (t' := .int) (by decide) (by decide))))
  have f53 := (f31.other W6 (Or.inr (slot_ne (Or.inl (wd_37 hw)) (Or.inl (wd_39 hw)) (by decide) (t := .int) (t' := .int) (by decide) (by decide))))
  have f54 := ((M_4.2.2.2.2.2.1.other W5 (Or.inr (slot_ne (Or.inr (wd_41 hw)) (Or.inl (wd_37 hw)) (by decide) (t := (.object "java/util/Comparator")) (t' := .int) (by decide) (by decide)))).other W6 (Or.inr (slot_ne (Or.inr (wd_41 hw)) (Or.inl (wd_39 hw)) (by decide) (t := (.object "java/util/Comparator")) (t' := .int) (by decide) (by decide))))
  have f55 := ((M_4.2.2.2.2.2.2.other W5 (Or.inr (slot_ne (Or.inl (wd_179 hw)) (Or.inl (wd_37 hw)) (by decide) (t := (.object "java/util/TreeMap$EntrySet")) (t' := .int) (by decide) (by decide)))).other W6 (Or.inr (slot_ne (Or.inl (wd_179 hw)) (Or.inl (wd_39 hw)) (by decide) (t := (.object "java/util/TreeMap$EntrySet")) (t' := .int) (by decide) (by decide))))
  exact w_retV X k2729_29_58 ⟨rfl, b1, sz_b1, ⟨N_ex_4.1, f37, f39, f40, f41, f42, f43, f44⟩, ⟨N_er_4.1, f45, f46, f47, f48, f49, f50, f51⟩, ⟨M_4.1, f38, f52, f53, f35, f54, f55⟩, K36⟩ (by decide) (by decide)
theorem m_aell (hw : own_hw a0 Z) {h0 : Heap} {el er tm ka va : Addr} {kl vl kr vr ev : Value} {sz mc : Int32} (N_el : own_N Z n0 h0 el kl vl .null .null (.ref er) (0 : Int32)) (N_er : own_N Z n0 h0 er kr vr (.ref el) .null .null (1 : Int32)) (M0 : own_M Z n0 h0 tm (.ref er) ev sz mc) (ne_el_er : el ≠ er) :
    Does l Z n0 ⟨"java/util/TreeMap", "addEntry", "(Ljava/lang/Object;Ljava/lang/Object;Ljava/util/TreeMap$Entry;Z)V"⟩ jdk_2729_method_29_code 6 none [] { frames := 2, cells := 1, slots := 6, locals := 28 } #[(.ref tm), (.ref ka), (.ref va), (.ref el), (.int (1 : Int32))] h0 (fun v h => v = none ∧ ∃ ex, h0.size ≤ ex ∧ own_N Z n0 h ex (.ref ka) (.ref va) .null .null (.ref el) (0 : Int32) ∧ own_N Z n0 h el kl vl (.ref ex) (.ref er) .null (1 : Int32) ∧ own_N Z n0 h er kr vr .null .null (.ref el) (0 : Int32) ∧ own_M Z n0 h tm (.ref el) ev (sz + (1 : Int32)) (mc + (1 : Int32)) ∧ Keep h0 h [el, er, tm]) := by
  refine Does.start (plainFor_of_name pn_2) ?_
  intro p e s m below meth c T X
  replace X : Sd _ _ _ _ _ "java/util/TreeMap" "addEntry" _ _ _ _ _ _ _ _ _ _ _ _ _ _ _ _ := X
  refine Wp.cast (g' := mkF m 0 #[.val (.ref tm), .val (.ref ka), .val (.ref va), .val (.ref el), .val (.int (1 : Int32)), .unset] []) (by first | (simp [entryFrame, mkF, argsToLocals, Value.category, maxLocals]; done) | rfl) ?_
  refine w_new X k2729_29_0 (wd_104 hw) (wd_105 hw) (wd_106 hw) (by decide) (by decide) (fun T h1 b1 g1 gn1 X E1 A1 D1 => ?_)
  have sz_b1 : h0.size ≤ b1 := Nat.le_trans (Keep.refl h0 [el, er, tm]).1 (Nat.le_of_eq g1.symm)
  have K1 : Keep h0 h1 [el, er, tm] := (Keep.refl h0 [el, er, tm]).ext E1
  refine w_dup X k2729_29_3 rfl ?_
  refine w_aloadN X k2729_29_4 rfl (rfl) ?_
  refine w_aloadN X k2729_29_5 rfl (rfl) ?_
  refine w_aloadN X k2729_29_6 rfl (rfl) ?_
  have nq2 : own_N Z n0 h1 b1 .null .null .null .null .null (0 : Int32) := ⟨gn1, A1, (show Fld Z h1 b1 "java/util/TreeMap$Entry" "key" "Ljava/lang/Object;" .null from D1 (Or.inl (wd_115 hw)) (ty := (.object "java/lang/Object")) (by decide)), (show Fld Z h1 b1 "java/util/TreeMap$Entry" "value" "Ljava/lang/Object;" .null from D1 (Or.inl (wd_117 hw)) (ty := (.object "java/lang/Object")) (by decide)), (show Fld Z h1 b1 "java/util/TreeMap$Entry" "left" "Ljava/util/TreeMap$Entry;" .null from D1 (Or.inl (wd_220 hw)) (ty := (.object "java/util/TreeMap$Entry")) (by decide)), (show Fld Z h1 b1 "java/util/TreeMap$Entry" "right" "Ljava/util/TreeMap$Entry;" .null from D1 (Or.inl (wd_151 hw)) (ty := (.object "java/util/TreeMap$Entry")) (by decide)), (show Fld Z h1 b1 "java/util/TreeMap$Entry" "parent" "Ljava/util/TreeMap$Entry;" .null from D1 (Or.inl (wd_119 hw)) (ty := (.object "java/util/TreeMap$Entry")) (by decide)), (show Fld Z h1 b1 "java/util/TreeMap$Entry" "color" "Z" (.int (0 : Int32)) from D1 (Or.inl (wd_113 hw)) (ty := .boolean) (by decide))⟩
  refine w_callI X k2729_29_7 rfl (wd_107 hw) (wd_108 hw) (wd_106 hw) (wd_110 hw) (by decide) (argsL := [(.ref ka), (.ref va), (.ref el)]) (S := [(.ref b1)]) (m_eir hw nq2) pd_9 rfl rfl rfl (by decide) (leR rfl) (by decide) (by decide) (fun T h2 v2 L2 X q2 => ?_)
  obtain ⟨rfl, N_2, Kc2⟩ := q2
  have K3 : Keep h0 h2 [el, er, tm] := K1.trans Kc2 (fun x hx => by cases List.mem_singleton.mp hx; exact (Or.inr sz_b1))
  show Wp _ _ _ _ (T.setTop (mkF _ _ _ [(.ref b1)]))
  refine w_astore X #[.val (.ref tm), .val (.ref ka), .val (.ref va), .val (.ref el), .val (.int (1 : Int32)), .val (.ref b1)] k2729_29_10 (rfl) rfl ?_
  refine w_iload X k2729_29_12 rfl ?_
  refine w_ifeq X k2729_29_14 (fun hc => absurd hc (by decide)) (fun _ => ?_)
  refine w_aloadN X k2729_29_17 rfl (rfl) ?_
  refine w_aload X k2729_29_18 rfl (rfl) ?_
  have f4 := ((N_el.2.1.ext E1).keep Kc2)
  have f5 := ((N_el.2.2.2.2.1.ext E1).keep Kc2 (ni1 (Nat.ne_of_lt (Nat.lt_of_lt_of_le N_el.2.1.lt (Nat.le_of_eq g1.symm)))))
  refine w_putF X k2729_29_20 (host := "") (Or.inl (wd_219 hw)) Via.refl f5 f4 (Or.inl (wd_220 hw)) (wd_105 hw) (ty := (.object "java/util/TreeMap$Entry")) (by decide) rfl rfl N_el.1 (fun T h3 X W3 => ?_)
  have f6 := f5.same W3
  have K7 : Keep h0 h3 [el, er, tm] := K3.wr W3 (Or.inl (List.mem_of_getElem? (i := 0) rfl))
  refine w_goto X k2729_29_23 ?_
  refine w_aloadN X k2729_29_32 rfl (rfl) ?_
  refine w_aload X k2729_29_33 rfl (rfl) ?_
  have f8 := (N_2.2.1.wr W3)
  have f9 := (N_2.2.2.1.other W3 (Or.inl (Ne.symm (Nat.ne_of_lt (Nat.lt_of_lt_of_le N_el.2.1.lt (Nat.le_of_eq g1.symm))))))
  have f10 := (N_2.2.2.2.1.other W3 (Or.inl (Ne.symm (Nat.ne_of_lt (Nat.lt_of_lt_of_le N_el.2.1.lt (Nat.le_of_eq g1.symm))))))
  have f11 := (N_2.2.2.2.2.1.other W3 (Or.inl (Ne.symm (Nat.ne_of_lt (Nat.lt_of_lt_of_le N_el.2.1.lt (Nat.le_of_eq g1.symm))))))
  have f12 := (N_2.2.2.2.2.2.1.other W3 (Or.inl (Ne.symm (Nat.ne_of_lt (Nat.lt_of_lt_of_le N_el.2.1.lt (Nat.le_of_eq g1.symm))))))
  have f13 := (N_2.2.2.2.2.2.2.1.other W3 (Or.inl (Ne.symm (Nat.ne_of_lt (Nat.lt_of_lt_of_le N_el.2.1.lt (Nat.le_of_eq g1.symm))))))
  have f14 := (N_2.2.2.2.2.2.2.2.other W3 (Or.inl (Ne.symm (Nat.ne_of_lt (Nat.lt_of_lt_of_le N_el.2.1.lt (Nat.le_of_eq g1.symm))))))
  have nq15 : own_N Z n0 h3 b1 (.ref ka) (.ref va) .null .null (.ref el) (1 : Int32) := ⟨N_2.1, f8, f9, f10, f11, f12, f13, f14⟩
  have f16 := (f4.wr W3)
  have f17 := (((N_el.2.2.1.ext E1).keep Kc2 (ni1 (Nat.ne_of_lt (Nat.lt_of_lt_of_le N_el.2.1.lt (Nat.le_of_eq g1.symm))))).other W3 (Or.inr (slot_ne (Or.inl (wd_115 hw)) (Or.inl (wd_220 hw)) (by decide) (t := (.object "java/lang/Object")) (t' := (.object "java/util/TreeMap$Entry")) (by decide) (by decide))))
  have f18 := (((N_el.2.2.2.1.ext E1).keep Kc2 (ni1 (Nat.ne_of_lt (Nat.lt_of_lt_of_le N_el.2.1.lt (Nat.le_of_eq g1.symm))))).other W3 (Or.inr (slot_ne (Or.inl (wd_117 hw)) (Or.inl (wd_220 hw)) (by decide) (t := (.object "java/lang/Object")) (t' := (.object "java/util/TreeMap$Entry")) (by decide) (by decide))))
  have f19 := (((N_el.2.2.2.2.2.1.ext E1).keep Kc2 (ni1 (Nat.ne_of_lt (Nat.lt_of_lt_of_le N_el.2.1.lt (Nat.le_of_eq g1.symm))))).other W3 (Or.inr (slot_ne (Or.inl (wd_151 hw)) (Or.inl (wd_220 hw)) (by decide) (t := (.object "java/util/TreeMap$Entry")) (t' := (.object "java/util/TreeMap$Entry")) (by decide) (by decide))))
  have f20 := (((N_el.2.2.2.2.2.2.1.ext E1).keep Kc2 (ni1 (Nat.ne_of_lt (Nat.lt_of_lt_of_le N_el.2.1.lt (Nat.le_of_eq g1.symm))))).other W3 (Or.inr (slot_ne (Or.inl (wd_119 hw)) (Or.inl (wd_220 hw)) (by decide) (t := (.object "java/util/TreeMap$Entry")) (t' := (.object "java/util/TreeMap$Entry")) (by decide) (by decide))))
  have f21 := (((N_el.2.2.2.2.2.2.2.ext E1).keep Kc2 (ni1 (Nat.ne_of_lt (Nat.lt_of_lt_of_le N_el.2.1.lt (Nat.le_of_eq g1.symm))))).other W3 (Or.inr (slot_ne (Or.inl (wd_113 hw)) (Or.inl (wd_220 hw)) (by decide) (t := .boolean) (t' := (.object "java/util/TreeMap$Entry")) (by decide) (by decide))))
  have nq22 : own_N Z n0 h3 el kl vl (.ref b1) .null (.ref er) (0 : Int32) := ⟨N_el.1, f16, f17, f18, f6, f19, f20, f21⟩
  have f23 := (((N_er.2.1.ext E1).keep Kc2).wr W3)
  have f24 := (((N_er.2.2.1.ext E1).keep Kc2 (ni1 (Nat.ne_of_lt (Nat.lt_of_lt_of_le N_er.2.1.lt (Nat.le_of_eq g1.symm))))).other W3 (Or.inl (Ne.symm ne_el_er)))
  have f25 := (((N_er.2.2.2.1.ext E1).keep Kc2 (ni1 (Nat.ne_of_lt (Nat.lt_of_lt_of_le N_er.2.1.lt (Nat.le_of_eq g1.symm))))).other W3 (Or.inl (Ne.symm ne_el_er)))
  have f26 := (((N_er.2.2.2.2.1.ext E1).keep Kc2 (ni1 (Nat.ne_of_lt (Nat.lt_of_lt_of_le N_er.2.1.lt (Nat.le_of_eq g1.symm))))).other W3 (Or.inl (Ne.symm ne_el_er)))
  have f27 := (((N_er.2.2.2.2.2.1.ext E1).keep Kc2 (ni1 (Nat.ne_of_lt (Nat.lt_of_lt_of_le N_er.2.1.lt (Nat.le_of_eq g1.symm))))).other W3 (Or.inl (Ne.symm ne_el_er)))
  have f28 := (((N_er.2.2.2.2.2.2.1.ext E1).keep Kc2 (ni1 (Nat.ne_of_lt (Nat.lt_of_lt_of_le N_er.2.1.lt (Nat.le_of_eq g1.symm))))).other W3 (Or.inl (Ne.symm ne_el_er)))
  have f29 := (((N_er.2.2.2.2.2.2.2.ext E1).keep Kc2 (ni1 (Nat.ne_of_lt (Nat.lt_of_lt_of_le N_er.2.1.lt (Nat.le_of_eq g1.symm))))).other W3 (Or.inl (Ne.symm ne_el_er)))
  have nq30 : own_N Z n0 h3 er kr vr (.ref el) .null .null (1 : Int32) := ⟨N_er.1, f23, f24, f25, f26, f27, f28, f29⟩
  have f31 := (((M0.2.1.ext E1).keep Kc2).wr W3)
  have f32 := (((M0.2.2.1.ext E1).keep Kc2 (ni1 (Exa.ne f31 f8 (by decide)))).other W3 (Or.inl (Exa.ne f31 f16 (by decide))))
  have f33 := (((M0.2.2.2.1.ext E1).keep Kc2 (ni1 (Exa.ne f31 f8 (by decide)))).other W3 (Or.inl (Exa.ne f31 f16 (by decide))))
  have f34 := (((M0.2.2.2.2.1.ext E1).keep Kc2 (ni1 (Exa.ne f31 f8 (by decide)))).other W3 (Or.inl (Exa.ne f31 f16 (by decide))))
  have f35 := (((M0.2.2.2.2.2.1.ext E1).keep Kc2 (ni1 (Exa.ne f31 f8 (by decide)))).other W3 (Or.inl (Exa.ne f31 f16 (by decide))))
  have f36 := (((M0.2.2.2.2.2.2.ext E1).keep Kc2 (ni1 (Exa.ne f31 f8 (by decide)))).other W3 (Or.inl (Exa.ne f31 f16 (by decide))))
  have mq37 : own_M Z n0 h3 tm (.ref er) ev sz mc := ⟨M0.1, f31, f32, f33, f34, f35, f36⟩
  refine w_callP X k2729_29_35 (wd_157 hw) (wd_158 hw) (wd_160 hw) (wd_159 hw) (wd_25 hw) (wd_161 hw) (by decide) f31 (argsL := [(.ref b1)]) (S := []) (m_fxll hw nq15 nq22 nq30 mq37 (Ne.symm (Nat.ne_of_lt (Nat.lt_of_lt_of_le N_el.2.1.lt (Nat.le_of_eq g1.symm)))) (Ne.symm (Nat.ne_of_lt (Nat.lt_of_lt_of_le N_er.2.1.lt (Nat.le_of_eq g1.symm)))) ne_el_er) pd_8 rfl rfl rfl (by decide) (leR rfl) (by decide) (by decide) (fun T h4 v4 L4 X q4 => ?_)
  obtain ⟨rfl, N_ex_4, N_el_4, N_er_4, M_4, Kc4⟩ := q4
  have K38 : Keep h0 h4 [el, er, tm] := K7.trans Kc4 (fun x hx => by simp only [List.mem_cons, List.not_mem_nil, or_false] at hx; rcases hx with rfl | rfl | rfl | rfl <;> first | exact (Or.inr sz_b1) | exact (Or.inl (List.mem_of_getElem? (i := 0) rfl)) | exact (Or.inl (List.mem_of_getElem? (i := 1) rfl)) | exact (Or.inl (List.mem_of_getElem? (i := 2) rfl)))
  show Wp _ _ _ _ (T.setTop (mkF _ _ _ []))
  refine w_aloadN X k2729_29_38 rfl (rfl) ?_
  refine w_dup X k2729_29_39 rfl ?_
  refine w_getF X k2729_29_40 (host := "") (Or.inl (wd_36 hw)) Via.refl M_4.2.2.2.1 (fun T X => ?_)
  refine w_iconst X (1 : Int32) k2729_29_43 rfl ?_
  refine w_iadd X k2729_29_44 ?_
  refine w_putF X k2729_29_45 (host := "") (Or.inl (wd_36 hw)) Via.refl M_4.2.2.2.1 M_4.2.1 (Or.inl (wd_37 hw)) (wd_24 hw) (ty := .int) (by decide) rfl rfl M_4.1 (fun T h5 X W5 => ?_)
  have f39 := M_4.2.2.2.1.same W5
  have K40 : Keep h0 h5 [el, er, tm] := K38.wr W5 (Or.inl (List.mem_of_getElem? (i := 2) rfl))
  refine w_aloadN X k2729_29_48 rfl (rfl) ?_
  refine w_dup X k2729_29_49 rfl ?_
  have f41 := (M_4.2.2.2.2.1.other W5 (Or.inr (slot_ne (Or.inl (wd_39 hw)) (Or.inl (wd_37 hw)) (by decide) (t := .int) (t' := .int) (by decide) (by decide))))
  refine w_getF X k2729_29_50 (host := "") (Or.inl (wd_38 hw)) Via.refl f41 (fun T X => ?_)
  refine w_iconst X (1 : Int32) k2729_29_53 rfl ?_
  refine w_iadd X k2729_29_54 ?_
  have f42 := (M_4.2.1.wr W5)
  refine w_putF X k2729_29_55 (host := "") (Or.inl (wd_38 hw)) Via.refl f41 f42 (Or.inl (wd_39 hw)) (wd_24 hw) (ty := .int) (by decide) rfl rfl M_4.1 (fun T h6 X W6 => ?_)
  have f43 := f41.same W6
  have K44 : Keep h0 h6 [el, er, tm] := K40.wr W6 (Or.inl (List.mem_of_getElem? (i := 2) rfl))
  have f45 := ((N_ex_4.2.1.wr W5).wr W6)
  have f46 := (f42.wr W6)
  have f47 := ((N_ex_4.2.2.1.other W5 (Or.inl (Exa.ne f45 f46 (by decide)))).other W6 (Or.inl (Exa.ne f45 f46 (by decide))))
  have f48 := ((N_ex_4.2.2.2.1.other W5 (Or.inl (Exa.ne f45 f46 (by decide)))).other W6 (Or.inl (Exa.ne f45 f46 (by decide))))
  have f49 := ((N_ex_4.2.2.2.2.1.other W5 (Or.inl (Exa.ne f45 f46 (by decide)))).other W6 (Or.inl (Exa.ne f45 f46 (by decide))))
  have f50 := ((N_ex_4.2.2.2.2.2.1.other W5 (Or.inl (Exa.ne f45 f46 (by decide)))).other W6 (Or.inl (Exa.ne f45 f46 (by decide))))
  have f51 := ((N_ex_4.2.2.2.2.2.2.1.other W5 (Or.inl (Exa.ne f45 f46 (by decide)))).other W6 (Or.inl (Exa.ne f45 f46 (by decide))))
  have f52 := ((N_ex_4.2.2.2.2.2.2.2.other W5 (Or.inl (Exa.ne f45 f46 (by decide)))).other W6 (Or.inl (Exa.ne f45 f46 (by decide))))
  have f53 := ((N_el_4.2.1.wr W5).wr W6)
  have f54 := ((N_el_4.2.2.1.other W5 (Or.inl (Exa.ne f53 f46 (by decide)))).other W6 (Or.inl (Exa.ne f53 f46 (by decide))))
  have f55 := ((N_el_4.2.2.2.1.other W5 (Or.inl (Exa.ne f53 f46 (by decide)))).other W6 (Or.inl (Exa.ne f53 f46 (by decide))))
  have f56 := ((N_el_4.2.2.2.2.1.other W5 (Or.inl (Exa.ne f53 f46 (by decide)))).other W6 (Or.inl (Exa.ne f53 f46 (by decide))))
  have f57 := ((N_el_4.2.2.2.2.2.1.other W5 (Or.inl (Exa.ne f53 f46 (by decide)))).other W6 (Or.inl (Exa.ne f53 f46 (by decide))))
  have f58 := ((N_el_4.2.2.2.2.2.2.1.other W5 (Or.inl (Exa.ne f53 f46 (by decide)))).other W6 (Or.inl (Exa.ne f53 f46 (by decide))))
  have f59 := ((N_el_4.2.2.2.2.2.2.2.other W5 (Or.inl (Exa.ne f53 f46 (by decide)))).other W6 (Or.inl (Exa.ne f53 f46 (by decide))))
  have f60 := ((N_er_4.2.1.wr W5).wr W6)
  have f61 := ((N_er_4.2.2.1.other W5 (Or.inl (Exa.ne f60 f46 (by decide)))).other W6 (Or.inl (Exa.ne f60 f46 (by decide))))
  have f62 := ((N_er_4.2.2.2.1.other W5 (Or.inl (Exa.ne f60 f46 (by decide)))).other W6 (Or.inl (Exa.ne f60 f46 (by decide))))
  have f63 := ((N_er_4.2.2.2.2.1.other W5 (Or.inl (Exa.ne f60 f46 (by decide)))).other W6 (Or.inl (Exa.ne f60 f46 (by decide))))
  have f64 := ((N_er_4.2.2.2.2.2.1.other W5 (Or.inl (Exa.ne f60 f46 (by decide)))).other W6 (Or.inl (Exa.ne f60 f46 (by decide))))
  have f65 := ((N_er_4.2.2.2.2.2.2.1.other W5 (Or.inl (Exa.ne f60 f46 (by decide)))).other W6 (Or.inl (Exa.ne f60 f46 (by decide))))
  have f66 := ((N_er_4.2.2.2.2.2.2.2.other W5 (Or.inl (Exa.ne f60 f46 (by decide)))).other W6 (Or.inl (Exa.ne f60 f46 (by decide))))
  have f67 := ((M_4.2.2.1.other W5 (Or.inr (slot_ne (Or.inl (wd_72 hw)) (Or.inl (wd_37 hw)) (by decide) (t := (.object "java/util/TreeMap$Entry")) (t' := .int) (by decide) (by decide)))).other W6 (Or.inr (slot_ne (Or.inl (wd_72 hw)) (Or.inl (wd_39 hw)) (by decide) (t := (.object "java/util/TreeMap$Entry")) (t' := .int) (by decide) (by decide))))
  have f68 := (f39.other W6 (Or.inr (slot_ne (Or.inl (wd_37 hw)) (Or.inl (wd_39 hw)) (by decide) (t := .int) (t' := .int) (by decide) (by decide))))
  have f69 := ((M_4.2.2.2.2.2.1.other W5 (Or.inr (slot_ne (Or.inr (wd_41 hw)) (Or.inl (wd_37 hw)) (by decide) (t := (.object "java/util/Comparator")) (t' := .int) (by decide) (by decide)))).other W6 (Or.inr (slot_ne (Or.inr (wd_41 hw)) (Or.inl (wd_39 hw)) (by decide) (t := (.object "java/util/Comparator")) (t' := .int) (by decide) (by decide))))
  have f70 := ((M_4.2.2.2.2.2.2.other W5 (Or.inr (slot_ne (Or.inl (wd_179 hw)) (Or.inl (wd_37 hw)) (by decide) (t := (.object "java/util/TreeMap$EntrySet")) (t' := .int) (by decide) (by decide)))).other W6 (Or.inr (slot_ne (Or.inl (wd_179 hw)) (Or.inl (wd_39 hw)) (by decide) (t := (.object "java/util/TreeMap$EntrySet")) (t' := .int) (by decide) (by decide))))
  exact w_retV X k2729_29_58 ⟨rfl, b1, sz_b1, ⟨N_ex_4.1, f45, f47, f48, f49, f50, f51, f52⟩, ⟨N_el_4.1, f53, f54, f55, f56, f57, f58, f59⟩, ⟨N_er_4.1, f60, f61, f62, f63, f64, f65, f66⟩, ⟨M_4.1, f46, f67, f68, f43, f69, f70⟩, K44⟩ (by decide) (by decide)
theorem m_aelr (hw : own_hw a0 Z) {h0 : Heap} {el er tm ka va : Addr} {kl vl kr vr ev : Value} {sz mc : Int32} (N_el : own_N Z n0 h0 el kl vl .null .null (.ref er) (0 : Int32)) (N_er : own_N Z n0 h0 er kr vr (.ref el) .null .null (1 : Int32)) (M0 : own_M Z n0 h0 tm (.ref er) ev sz mc) (ne_el_er : el ≠ er) :
    Does l Z n0 ⟨"java/util/TreeMap", "addEntry", "(Ljava/lang/Object;Ljava/lang/Object;Ljava/util/TreeMap$Entry;Z)V"⟩ jdk_2729_method_29_code 6 none [] { frames := 2, cells := 1, slots := 6, locals := 28 } #[(.ref tm), (.ref ka), (.ref va), (.ref el), (.int (0 : Int32))] h0 (fun v h => v = none ∧ ∃ ex, h0.size ≤ ex ∧ own_N Z n0 h ex (.ref ka) (.ref va) (.ref el) (.ref er) .null (1 : Int32) ∧ own_N Z n0 h el kl vl .null .null (.ref ex) (0 : Int32) ∧ own_N Z n0 h er kr vr .null .null (.ref ex) (0 : Int32) ∧ own_M Z n0 h tm (.ref ex) ev (sz + (1 : Int32)) (mc + (1 : Int32)) ∧ Keep h0 h [el, er, tm]) := by
  refine Does.start (plainFor_of_name pn_2) ?_
  intro p e s m below meth c T X
  replace X : Sd _ _ _ _ _ "java/util/TreeMap" "addEntry" _ _ _ _ _ _ _ _ _ _ _ _ _ _ _ _ := X
  refine Wp.cast (g' := mkF m 0 #[.val (.ref tm), .val (.ref ka), .val (.ref va), .val (.ref el), .val (.int (0 : Int32)), .unset] []) (by first | (simp [entryFrame, mkF, argsToLocals, Value.category, maxLocals]; done) | rfl) ?_
  refine w_new X k2729_29_0 (wd_104 hw) (wd_105 hw) (wd_106 hw) (by decide) (by decide) (fun T h1 b1 g1 gn1 X E1 A1 D1 => ?_)
  have sz_b1 : h0.size ≤ b1 := Nat.le_trans (Keep.refl h0 [el, er, tm]).1 (Nat.le_of_eq g1.symm)
  have K1 : Keep h0 h1 [el, er, tm] := (Keep.refl h0 [el, er, tm]).ext E1
  refine w_dup X k2729_29_3 rfl ?_
  refine w_aloadN X k2729_29_4 rfl (rfl) ?_
  refine w_aloadN X k2729_29_5 rfl (rfl) ?_
  refine w_aloadN X k2729_29_6 rfl (rfl) ?_
  have nq2 : own_N Z n0 h1 b1 .null .null .null .null .null (0 : Int32) := ⟨gn1, A1, (show Fld Z h1 b1 "java/util/TreeMap$Entry" "key" "Ljava/lang/Object;" .null from D1 (Or.inl (wd_115 hw)) (ty := (.object "java/lang/Object")) (by decide)), (show Fld Z h1 b1 "java/util/TreeMap$Entry" "value" "Ljava/lang/Object;" .null from D1 (Or.inl (wd_117 hw)) (ty := (.object "java/lang/Object")) (by decide)), (show Fld Z h1 b1 "java/util/TreeMap$Entry" "left" "Ljava/util/TreeMap$Entry;" .null from D1 (Or.inl (wd_220 hw)) (ty := (.object "java/util/TreeMap$Entry")) (by decide)), (show Fld Z h1 b1 "java/util/TreeMap$Entry" "right" "Ljava/util/TreeMap$Entry;" .null from D1 (Or.inl (wd_151 hw)) (ty := (.object "java/util/TreeMap$Entry")) (by decide)), (show Fld Z h1 b1 "java/util/TreeMap$Entry" "parent" "Ljava/util/TreeMap$Entry;" .null from D1 (Or.inl (wd_119 hw)) (ty := (.object "java/util/TreeMap$Entry")) (by decide)), (show Fld Z h1 b1 "java/util/TreeMap$Entry" "color" "Z" (.int (0 : Int32)) from D1 (Or.inl (wd_113 hw)) (ty := .boolean) (by decide))⟩
  refine w_callI X k2729_29_7 rfl (wd_107 hw) (wd_108 hw) (wd_106 hw) (wd_110 hw) (by decide) (argsL := [(.ref ka), (.ref va), (.ref el)]) (S := [(.ref b1)]) (m_eir hw nq2) pd_9 rfl rfl rfl (by decide) (leR rfl) (by decide) (by decide) (fun T h2 v2 L2 X q2 => ?_)
  obtain ⟨rfl, N_2, Kc2⟩ := q2
  have K3 : Keep h0 h2 [el, er, tm] := K1.trans Kc2 (fun x hx => by cases List.mem_singleton.mp hx; exact (Or.inr sz_b1))
  show Wp _ _ _ _ (T.setTop (mkF _ _ _ [(.ref b1)]))
  refine w_astore X #[.val (.ref tm), .val (.ref ka), .val (.ref va), .val (.ref el), .val (.int (0 : Int32)), .val (.ref b1)] k2729_29_10 (rfl) rfl ?_
  refine w_iload X k2729_29_12 rfl ?_
  refine w_ifeq X k2729_29_14 (fun _ => ?_) (fun hc => absurd rfl hc)
  refine w_aloadN X k2729_29_26 rfl (rfl) ?_
  refine w_aload X k2729_29_27 rfl (rfl) ?_
  have f4 := ((N_el.2.1.ext E1).keep Kc2)
  have f5 := ((N_el.2.2.2.2.2.1.ext E1).keep Kc2 (ni1 (Nat.ne_of_lt (Nat.lt_of_lt_of_le N_el.2.1.lt (Nat.le_of_eq g1.symm)))))
  refine w_putF X k2729_29_29 (host := "") (Or.inl (wd_150 hw)) Via.refl f5 f4 (Or.inl (wd_151 hw)) (wd_105 hw) (ty := (.object "java/util/TreeMap$Entry")) (by decide) rfl rfl N_el.1 (fun T h3 X W3 => ?_)
  have f6 := f5.same W3
  have K7 : Keep h0 h3 [el, er, tm] := K3.wr W3 (Or.inl (List.mem_of_getElem? (i := 0) rfl))
  refine w_aloadN X k2729_29_32 rfl (rfl) ?_
  refine w_aload X k2729_29_33 rfl (rfl) ?_
  have f8 := (N_2.2.1.wr W3)
  have f9 := (N_2.2.2.1.other W3 (Or.inl (Ne.symm (Nat.ne_of_lt (Nat.lt_of_lt_of_le N_el.2.1.lt (Nat.le_of_eq g1.symm))))))
  have f10 := (N_2.2.2.2.1.other W3 (Or.inl (Ne.symm (Nat.ne_of_lt (Nat.lt_of_lt_of_le N_el.2.1.lt (Nat.le_of_eq g1.symm))))))
  have f11 := (N_2.2.2.2.2.1.other W3 (Or.inl (Ne.symm (Nat.ne_of_lt (Nat.lt_of_lt_of_le N_el.2.1.lt (Nat.le_of_eq g1.symm))))))
  have f12 := (N_2.2.2.2.2.2.1.other W3 (Or.inl (Ne.symm (Nat.ne_of_lt (Nat.lt_of_lt_of_le N_el.2.1.lt (Nat.le_of_eq g1.symm))))))
  have f13 := (N_2.2.2.2.2.2.2.1.other W3 (Or.inl (Ne.symm (Nat.ne_of_lt (Nat.lt_of_lt_of_le N_el.2.1.lt (Nat.le_of_eq g1.symm))))))
  have f14 := (N_2.2.2.2.2.2.2.2.other W3 (Or.inl (Ne.symm (Nat.ne_of_lt (Nat.lt_of_lt_of_le N_el.2.1.lt (Nat.le_of_eq g1.symm))))))
  have nq15 : own_N Z n0 h3 b1 (.ref ka) (.ref va) .null .null (.ref el) (1 : Int32) := ⟨N_2.1, f8, f9, f10, f11, f12, f13, f14⟩
  have f16 := (f4.wr W3)
  have f17 := (((N_el.2.2.1.ext E1).keep Kc2 (ni1 (Nat.ne_of_lt (Nat.lt_of_lt_of_le N_el.2.1.lt (Nat.le_of_eq g1.symm))))).other W3 (Or.inr (slot_ne (Or.inl (wd_115 hw)) (Or.inl (wd_151 hw)) (by decide) (t := (.object "java/lang/Object")) (t' := (.object "java/util/TreeMap$Entry")) (by decide) (by decide))))
  have f18 := (((N_el.2.2.2.1.ext E1).keep Kc2 (ni1 (Nat.ne_of_lt (Nat.lt_of_lt_of_le N_el.2.1.lt (Nat.le_of_eq g1.symm))))).other W3 (Or.inr (slot_ne (Or.inl (wd_117 hw)) (Or.inl (wd_151 hw)) (by decide) (t := (.object "java/lang/Object")) (t' := (.object "java/util/TreeMap$Entry")) (by decide) (by decide))))
  have f19 := (((N_el.2.2.2.2.1.ext E1).keep Kc2 (ni1 (Nat.ne_of_lt (Nat.lt_of_lt_of_le N_el.2.1.lt (Nat.le_of_eq g1.symm))))).other W3 (Or.inr (slot_ne (Or.inl (wd_220 hw)) (Or.inl (wd_151 hw)) (by decide) (t := (.object "java/util/TreeMap$Entry")) (t' := (.object "java/util/TreeMap$Entry")) (by decide) (by decide))))
  have f20 := (((N_el.2.2.2.2.2.2.1.ext E1).keep Kc2 (ni1 (Nat.ne_of_lt (Nat.lt_of_lt_of_le N_el.2.1.lt (Nat.le_of_eq g1.symm))))).other W3 (Or.inr (slot_ne (Or.inl (wd_119 hw)) (Or.inl (wd_151 hw)) (by decide) (t := (.object "java/util/TreeMap$Entry")) (t' := (.object "java/util/TreeMap$Entry")) (by decide) (by decide))))
  have f21 := (((N_el.2.2.2.2.2.2.2.ext E1).keep Kc2 (ni1 (Nat.ne_of_lt (Nat.lt_of_lt_of_le N_el.2.1.lt (Nat.le_of_eq g1.symm))))).other W3 (Or.inr (slot_ne (Or.inl (wd_113 hw)) (Or.inl (wd_151 hw)) (by decide) (t := .boolean) (t' := (.object "java/util/TreeMap$Entry")) (by decide) (by decide))))
  have nq22 : own_N Z n0 h3 el kl vl .null (.ref b1) (.ref er) (0 : Int32) := ⟨N_el.1, f16, f17, f18, f19, f6, f20, f21⟩
  have f23 := (((N_er.2.1.ext E1).keep Kc2).wr W3)
  have f24 := (((N_er.2.2.1.ext E1).keep Kc2 (ni1 (Nat.ne_of_lt (Nat.lt_of_lt_of_le N_er.2.1.lt (Nat.le_of_eq g1.symm))))).other W3 (Or.inl (Ne.symm ne_el_er)))
  have f25 := (((N_er.2.2.2.1.ext E1).keep Kc2 (ni1 (Nat.ne_of_lt (Nat.lt_of_lt_of_le N_er.2.1.lt (Nat.le_of_eq g1.symm))))).other W3 (Or.inl (Ne.symm ne_el_er)))
  have f26 := (((N_er.2.2.2.2.1.ext E1).keep Kc2 (ni1 (Nat.ne_of_lt (Nat.lt_of_lt_of_le N_er.2.1.lt (Nat.le_of_eq g1.symm))))).other W3 (Or.inl (Ne.symm ne_el_er)))
  have f27 := (((N_er.2.2.2.2.2.1.ext E1).keep Kc2 (ni1 (Nat.ne_of_lt (Nat.lt_of_lt_of_le N_er.2.1.lt (Nat.le_of_eq g1.symm))))).other W3 (Or.inl (Ne.symm ne_el_er)))
  have f28 := (((N_er.2.2.2.2.2.2.1.ext E1).keep Kc2 (ni1 (Nat.ne_of_lt (Nat.lt_of_lt_of_le N_er.2.1.lt (Nat.le_of_eq g1.symm))))).other W3 (Or.inl (Ne.symm ne_el_er)))
  have f29 := (((N_er.2.2.2.2.2.2.2.ext E1).keep Kc2 (ni1 (Nat.ne_of_lt (Nat.lt_of_lt_of_le N_er.2.1.lt (Nat.le_of_eq g1.symm))))).other W3 (Or.inl (Ne.symm ne_el_er)))
  have nq30 : own_N Z n0 h3 er kr vr (.ref el) .null .null (1 : Int32) := ⟨N_er.1, f23, f24, f25, f26, f27, f28, f29⟩
  have f31 := (((M0.2.1.ext E1).keep Kc2).wr W3)
  have f32 := (((M0.2.2.1.ext E1).keep Kc2 (ni1 (Exa.ne f31 f8 (by decide)))).other W3 (Or.inl (Exa.ne f31 f16 (by decide))))
  have f33 := (((M0.2.2.2.1.ext E1).keep Kc2 (ni1 (Exa.ne f31 f8 (by decide)))).other W3 (Or.inl (Exa.ne f31 f16 (by decide))))
  have f34 := (((M0.2.2.2.2.1.ext E1).keep Kc2 (ni1 (Exa.ne f31 f8 (by decide)))).other W3 (Or.inl (Exa.ne f31 f16 (by decide))))
  have f35 := (((M0.2.2.2.2.2.1.ext E1).keep Kc2 (ni1 (Exa.ne f31 f8 (by decide)))).other W3 (Or.inl (Exa.ne f31 f16 (by decide))))
  have f36 := (((M0.2.2.2.2.2.2.ext E1).keep Kc2 (ni1 (Exa.ne f31 f8 (by decide)))).other W3 (Or.inl (Exa.ne f31 f16 (by decide))))
  have mq37 : own_M Z n0 h3 tm (.ref er) ev sz mc := ⟨M0.1, f31, f32, f33, f34, f35, f36⟩
  refine w_callP X k2729_29_35 (wd_157 hw) (wd_158 hw) (wd_160 hw) (wd_159 hw) (wd_25 hw) (wd_161 hw) (by decide) f31 (argsL := [(.ref b1)]) (S := []) (m_fxlr hw nq15 nq22 nq30 mq37 (Ne.symm (Nat.ne_of_lt (Nat.lt_of_lt_of_le N_el.2.1.lt (Nat.le_of_eq g1.symm)))) (Ne.symm (Nat.ne_of_lt (Nat.lt_of_lt_of_le N_er.2.1.lt (Nat.le_of_eq g1.symm)))) ne_el_er) pd_8 rfl rfl rfl (by decide) (leR rfl) (by decide) (by decide) (fun T h4 v4 L4 X q4 => ?_)
  obtain ⟨rfl, N_ex_4, N_el_4, N_er_4, M_4, Kc4⟩ := q4
  have K38 : Keep h0 h4 [el, er, tm] := K7.trans Kc4 (fun x hx => by simp only [List.mem_cons, List.not_mem_nil, or_false] at hx; rcases hx with rfl | rfl | rfl | rfl <;> first | exact (Or.inr sz_b1) | exact (Or.inl (List.mem_of_getElem? (i := 0) rfl)) | exact (Or.inl (List.mem_of_getElem? (i := 1) rfl)) | exact (Or.inl (List.mem_of_getElem? (i := 2) rfl)))
  show Wp _ _ _ _ (T.setTop (mkF _ _ _ []))
  refine w_aloadN X k2729_29_38 rfl (rfl) ?_
  refine w_dup X k2729_29_39 rfl ?_
  refine w_getF X k2729_29_40 (host := "") (Or.inl (wd_36 hw)) Via.refl M_4.2.2.2.1 (fun T X => ?_)
  refine w_iconst X (1 : Int32) k2729_29_43 rfl ?_
  refine w_iadd X k2729_29_44 ?_
  refine w_putF X k2729_29_45 (host := "") (Or.inl (wd_36 hw)) Via.refl M_4.2.2.2.1 M_4.2.1 (Or.inl (wd_37 hw)) (wd_24 hw) (ty := .int) (by decide) rfl rfl M_4.1 (fun T h5 X W5 => ?_)
  have f39 := M_4.2.2.2.1.same W5
  have K40 : Keep h0 h5 [el, er, tm] := K38.wr W5 (Or.inl (List.mem_of_getElem? (i := 2) rfl))
  refine w_aloadN X k2729_29_48 rfl (rfl) ?_
  refine w_dup X k2729_29_49 rfl ?_
  have f41 := (M_4.2.2.2.2.1.other W5 (Or.inr (slot_ne (Or.inl (wd_39 hw)) (Or.inl (wd_37 hw)) (by decide) (t := .int) (t' := .int) (by decide) (by decide))))
  refine w_getF X k2729_29_50 (host := "") (Or.inl (wd_38 hw)) Via.refl f41 (fun T X => ?_)
  refine w_iconst X (1 : Int32) k2729_29_53 rfl ?_
  refine w_iadd X k2729_29_54 ?_
  have f42 := (M_4.2.1.wr W5)
  refine w_putF X k2729_29_55 (host := "") (Or.inl (wd_38 hw)) Via.refl f41 f42 (Or.inl (wd_39 hw)) (wd_24 hw) (ty := .int) (by decide) rfl rfl M_4.1 (fun T h6 X W6 => ?_)
  have f43 := f41.same W6
  have K44 : Keep h0 h6 [el, er, tm] := K40.wr W6 (Or.inl (List.mem_of_getElem? (i := 2) rfl))
  have f45 := ((N_ex_4.2.1.wr W5).wr W6)
  have f46 := (f42.wr W6)
  have f47 := ((N_ex_4.2.2.1.other W5 (Or.inl (Exa.ne f45 f46 (by decide)))).other W6 (Or.inl (Exa.ne f45 f46 (by decide))))
  have f48 := ((N_ex_4.2.2.2.1.other W5 (Or.inl (Exa.ne f45 f46 (by decide)))).other W6 (Or.inl (Exa.ne f45 f46 (by decide))))
  have f49 := ((N_ex_4.2.2.2.2.1.other W5 (Or.inl (Exa.ne f45 f46 (by decide)))).other W6 (Or.inl (Exa.ne f45 f46 (by decide))))
  have f50 := ((N_ex_4.2.2.2.2.2.1.other W5 (Or.inl (Exa.ne f45 f46 (by decide)))).other W6 (Or.inl (Exa.ne f45 f46 (by decide))))
  have f51 := ((N_ex_4.2.2.2.2.2.2.1.other W5 (Or.inl (Exa.ne f45 f46 (by decide)))).other W6 (Or.inl (Exa.ne f45 f46 (by decide))))
  have f52 := ((N_ex_4.2.2.2.2.2.2.2.other W5 (Or.inl (Exa.ne f45 f46 (by decide)))).other W6 (Or.inl (Exa.ne f45 f46 (by decide))))
  have f53 := ((N_el_4.2.1.wr W5).wr W6)
  have f54 := ((N_el_4.2.2.1.other W5 (Or.inl (Exa.ne f53 f46 (by decide)))).other W6 (Or.inl (Exa.ne f53 f46 (by decide))))
  have f55 := ((N_el_4.2.2.2.1.other W5 (Or.inl (Exa.ne f53 f46 (by decide)))).other W6 (Or.inl (Exa.ne f53 f46 (by decide))))
  have f56 := ((N_el_4.2.2.2.2.1.other W5 (Or.inl (Exa.ne f53 f46 (by decide)))).other W6 (Or.inl (Exa.ne f53 f46 (by decide))))
  have f57 := ((N_el_4.2.2.2.2.2.1.other W5 (Or.inl (Exa.ne f53 f46 (by decide)))).other W6 (Or.inl (Exa.ne f53 f46 (by decide))))
  have f58 := ((N_el_4.2.2.2.2.2.2.1.other W5 (Or.inl (Exa.ne f53 f46 (by decide)))).other W6 (Or.inl (Exa.ne f53 f46 (by decide))))
  have f59 := ((N_el_4.2.2.2.2.2.2.2.other W5 (Or.inl (Exa.ne f53 f46 (by decide)))).other W6 (Or.inl (Exa.ne f53 f46 (by decide))))
  have f60 := ((N_er_4.2.1.wr W5).wr W6)
  have f61 := ((N_er_4.2.2.1.other W5 (Or.inl (Exa.ne f60 f46 (by decide)))).other W6 (Or.inl (Exa.ne f60 f46 (by decide))))
  have f62 := ((N_er_4.2.2.2.1.other W5 (Or.inl (Exa.ne f60 f46 (by decide)))).other W6 (Or.inl (Exa.ne f60 f46 (by decide))))
  have f63 := ((N_er_4.2.2.2.2.1.other W5 (Or.inl (Exa.ne f60 f46 (by decide)))).other W6 (Or.inl (Exa.ne f60 f46 (by decide))))
  have f64 := ((N_er_4.2.2.2.2.2.1.other W5 (Or.inl (Exa.ne f60 f46 (by decide)))).other W6 (Or.inl (Exa.ne f60 f46 (by decide))))
  have f65 := ((N_er_4.2.2.2.2.2.2.1.other W5 (Or.inl (Exa.ne f60 f46 (by decide)))).other W6 (Or.inl (Exa.ne f60 f46 (by decide))))
  have f66 := ((N_er_4.2.2.2.2.2.2.2.other W5 (Or.inl (Exa.ne f60 f46 (by decide)))).other W6 (Or.inl (Exa.ne f60 f46 (by decide))))
  have f67 := ((M_4.2.2.1.other W5 (Or.inr (slot_ne (Or.inl (wd_72 hw)) (Or.inl (wd_37 hw)) (by decide) (t := (.object "java/util/TreeMap$Entry")) (t' := .int) (by decide) (by decide)))).other W6 (Or.inr (slot_ne (Or.inl (wd_72 hw)) (Or.inl (wd_39 hw)) (by decide) (t := (.object "java/util/TreeMap$Entry")) (t' := .int) (by decide) (by decide))))
  have f68 := (f39.other W6 (Or.inr (slot_ne (Or.inl (wd_37 hw)) (Or.inl (wd_39 hw)) (by decide) (t := .int) (t' := .int) (by decide) (by decide))))
  have f69 := ((M_4.2.2.2.2.2.1.other W5 (Or.inr (slot_ne (Or.inr (wd_41 hw)) (Or.inl (wd_37 hw)) (by decide) (t := (.object "java/util/Comparator")) (t' := .int) (by decide) (by decide)))).other W6 (Or.inr (slot_ne (Or.inr (wd_41 hw)) (Or.inl (wd_39 hw)) (by decide) (t := (.object "java/util/Comparator")) (t' := .int) (by decide) (by decide))))
  have f70 := ((M_4.2.2.2.2.2.2.other W5 (Or.inr (slot_ne (Or.inl (wd_179 hw)) (Or.inl (wd_37 hw)) (by decide) (t := (.object "java/util/TreeMap$EntrySet")) (t' := .int) (by decide) (by decide)))).other W6 (Or.inr (slot_ne (Or.inl (wd_179 hw)) (Or.inl (wd_39 hw)) (by decide) (t := (.object "java/util/TreeMap$EntrySet")) (t' := .int) (by decide) (by decide))))
  exact w_retV X k2729_29_58 ⟨rfl, b1, sz_b1, ⟨N_ex_4.1, f45, f47, f48, f49, f50, f51, f52⟩, ⟨N_el_4.1, f53, f54, f55, f56, f57, f58, f59⟩, ⟨N_er_4.1, f60, f61, f62, f63, f64, f65, f66⟩, ⟨M_4.1, f46, f67, f68, f43, f69, f70⟩, K44⟩ (by decide) (by decide)
theorem m_aerr (hw : own_hw a0 Z) {h0 : Heap} {el er tm ka va : Addr} {kl vl kr vr ev : Value} {sz mc : Int32} (N_el : own_N Z n0 h0 el kl vl .null .null (.ref er) (0 : Int32)) (N_er : own_N Z n0 h0 er kr vr .null (.ref el) .null (1 : Int32)) (M0 : own_M Z n0 h0 tm (.ref er) ev sz mc) (ne_el_er : el ≠ er) :
    Does l Z n0 ⟨"java/util/TreeMap", "addEntry", "(Ljava/lang/Object;Ljava/lang/Object;Ljava/util/TreeMap$Entry;Z)V"⟩ jdk_2729_method_29_code 6 none [] { frames := 2, cells := 1, slots := 6, locals := 28 } #[(.ref tm), (.ref ka), (.ref va), (.ref el), (.int (0 : Int32))] h0 (fun v h => v = none ∧ ∃ ex, h0.size ≤ ex ∧ own_N Z n0 h ex (.ref ka) (.ref va) .null .null (.ref el) (0 : Int32) ∧ own_N Z n0 h el kl vl (.ref er) (.ref ex) .null (1 : Int32) ∧ own_N Z n0 h er kr vr .null .null (.ref el) (0 : Int32) ∧ own_M Z n0 h tm (.ref el) ev (sz + (1 : Int32)) (mc + (1 : Int32)) ∧ Keep h0 h [el, er, tm]) := by
  refine Does.start (plainFor_of_name pn_2) ?_
  intro p e s m below meth c T X
  replace X : Sd _ _ _ _ _ "java/util/TreeMap" "addEntry" _ _ _ _ _ _ _ _ _ _ _ _ _ _ _ _ := X
  refine Wp.cast (g' := mkF m 0 #[.val (.ref tm), .val (.ref ka), .val (.ref va), .val (.ref el), .val (.int (0 : Int32)), .unset] []) (by first | (simp [entryFrame, mkF, argsToLocals, Value.category, maxLocals]; done) | rfl) ?_
  refine w_new X k2729_29_0 (wd_104 hw) (wd_105 hw) (wd_106 hw) (by decide) (by decide) (fun T h1 b1 g1 gn1 X E1 A1 D1 => ?_)
  have sz_b1 : h0.size ≤ b1 := Nat.le_trans (Keep.refl h0 [el, er, tm]).1 (Nat.le_of_eq g1.symm)
  have K1 : Keep h0 h1 [el, er, tm] := (Keep.refl h0 [el, er, tm]).ext E1
  refine w_dup X k2729_29_3 rfl ?_
  refine w_aloadN X k2729_29_4 rfl (rfl) ?_
  refine w_aloadN X k2729_29_5 rfl (rfl) ?_
  refine w_aloadN X k2729_29_6 rfl (rfl) ?_
  have nq2 : own_N Z n0 h1 b1 .null .null .null .null .null (0 : Int32) := ⟨gn1, A1, (show Fld Z h1 b1 "java/util/TreeMap$Entry" "key" "Ljava/lang/Object;" .null from D1 (Or.inl (wd_115 hw)) (ty := (.object "java/lang/Object")) (by decide)), (show Fld Z h1 b1 "java/util/TreeMap$Entry" "value" "Ljava/lang/Object;" .null from D1 (Or.inl (wd_117 hw)) (ty := (.object "java/lang/Object")) (by decide)), (show Fld Z h1 b1 "java/util/TreeMap$Entry" "left" "Ljava/util/TreeMap$Entry;" .null from D1 (Or.inl (wd_220 hw)) (ty := (.object "java/util/TreeMap$Entry")) (by decide)), (show Fld Z h1 b1 "java/util/TreeMap$Entry" "right" "Ljava/util/TreeMap$Entry;" .null from D1 (Or.inl (wd_151 hw)) (ty := (.object "java/util/TreeMap$Entry")) (by decide)), (show Fld Z h1 b1 "java/util/TreeMap$Entry" "parent" "Ljava/util/TreeMap$Entry;" .null from D1 (Or.inl (wd_119 hw)) (ty := (.object "java/util/TreeMap$Entry")) (by decide)), (show Fld Z h1 b1 "java/util/TreeMap$Entry" "color" "Z" (.int (0 : Int32)) from D1 (Or.inl (wd_113 hw)) (ty := .boolean) (by decide))⟩
  refine w_callI X k2729_29_7 rfl (wd_107 hw) (wd_108 hw) (wd_106 hw) (wd_110 hw) (by decide) (argsL := [(.ref ka), (.ref va), (.ref el)]) (S := [(.ref b1)]) (m_eir hw nq2) pd_9 rfl rfl rfl (by decide) (leR rfl) (by decide) (by decide) (fun T h2 v2 L2 X q2 => ?_)
  obtain ⟨rfl, N_2, Kc2⟩ := q2
  have K3 : Keep h0 h2 [el, er, tm] := K1.trans Kc2 (fun x hx => by cases List.mem_singleton.mp hx; exact (Or.inr sz_b1))
  show Wp _ _ _ _ (T.setTop (mkF _ _ _ [(.ref b1)]))
  refine w_astore X #[.val (.ref tm), .val (.ref ka), .val (.ref va), .val (.ref el), .val (.int (0 : Int32)), .val (.ref b1)] k2729_29_10 (rfl) rfl ?_
  refine w_iload X k2729_29_12 rfl ?_
  refine w_ifeq X k2729_29_14 (fun _ => ?_) (fun hc => absurd rfl hc)
  refine w_aloadN X k2729_29_26 rfl (rfl) ?_
  refine w_aload X k2729_29_27 rfl (rfl) ?_
  have f4 := ((N_el.2.1.ext E1).keep Kc2)
  have f5 := ((N_el.2.2.2.2.2.1.ext E1).keep Kc2 (ni1 (Nat.ne_of_lt (Nat.lt_of_lt_of_le N_el.2.1.lt (Nat.le_of_eq g1.symm)))))
  refine w_putF X k2729_29_29 (host := "") (Or.inl (wd_150 hw)) Via.refl f5 f4 (Or.inl (wd_151 hw)) (wd_105 hw) (ty := (.object "java/util/TreeMap$Entry")) (by decide) rfl rfl N_el.1 (fun T h3 X W3 => ?_)
  have f6 := f5.same W3
  have K7 : Keep h0 h3 [el, er, tm] := K3.wr W3 (Or.inl (List.mem_of_getElem? (i := 0) rfl))
  refine w_aloadN X k2729_29_32 rfl (rfl) ?_
  refine w_aload X k2729_29_33 rfl (rfl) ?_
  have f8 := (N_2.2.1.wr W3)
  have f9 := (N_2.2.2.1.other W3 (Or.inl (Ne.symm (Nat.ne_of_lt (Nat.lt_of_lt_of_le N_el.2.1.lt (Nat.le_of_eq g1.symm))))))
  have f10 := (N_2.2.2.2.1.other W3 (Or.inl (Ne.symm (Nat.ne_of_lt (Nat.lt_of_lt_of_le N_el.2.1.lt (Nat.le_of_eq g1.symm))))))
  have f11 := (N_2.2.2.2.2.1.other W3 (Or.inl (Ne.symm (Nat.ne_of_lt (Nat.lt_of_lt_of_le N_el.2.1.lt (Nat.le_of_eq g1.symm))))))
  have f12 := (N_2.2.2.2.2.2.1.other W3 (Or.inl (Ne.symm (Nat.ne_of_lt (Nat.lt_of_lt_of_le N_el.2.1.lt (Nat.le_of_eq g1.symm))))))
  have f13 := (N_2.2.2.2.2.2.2.1.other W3 (Or.inl (Ne.symm (Nat.ne_of_lt (Nat.lt_of_lt_of_le N_el.2.1.lt (Nat.le_of_eq g1.symm))))))
  have f14 := (N_2.2.2.2.2.2.2.2.other W3 (Or.inl (Ne.symm (Nat.ne_of_lt (Nat.lt_of_lt_of_le N_el.2.1.lt (Nat.le_of_eq g1.symm))))))
  have nq15 : own_N Z n0 h3 b1 (.ref ka) (.ref va) .null .null (.ref el) (1 : Int32) := ⟨N_2.1, f8, f9, f10, f11, f12, f13, f14⟩
  have f16 := (f4.wr W3)
  have f17 := (((N_el.2.2.1.ext E1).keep Kc2 (ni1 (Nat.ne_of_lt (Nat.lt_of_lt_of_le N_el.2.1.lt (Nat.le_of_eq g1.symm))))).other W3 (Or.inr (slot_ne (Or.inl (wd_115 hw)) (Or.inl (wd_151 hw)) (by decide) (t := (.object "java/lang/Object")) (t' := (.object "java/util/TreeMap$Entry")) (by decide) (by decide))))
  have f18 := (((N_el.2.2.2.1.ext E1).keep Kc2 (ni1 (Nat.ne_of_lt (Nat.lt_of_lt_of_le N_el.2.1.lt (Nat.le_of_eq g1.symm))))).other W3 (Or.inr (slot_ne (Or.inl (wd_117 hw)) (Or.inl (wd_151 hw)) (by decide) (t := (.object "java/lang/Object")) (t' := (.object "java/util/TreeMap$Entry")) (by decide) (by decide))))
  have f19 := (((N_el.2.2.2.2.1.ext E1).keep Kc2 (ni1 (Nat.ne_of_lt (Nat.lt_of_lt_of_le N_el.2.1.lt (Nat.le_of_eq g1.symm))))).other W3 (Or.inr (slot_ne (Or.inl (wd_220 hw)) (Or.inl (wd_151 hw)) (by decide) (t := (.object "java/util/TreeMap$Entry")) (t' := (.object "java/util/TreeMap$Entry")) (by decide) (by decide))))
  have f20 := (((N_el.2.2.2.2.2.2.1.ext E1).keep Kc2 (ni1 (Nat.ne_of_lt (Nat.lt_of_lt_of_le N_el.2.1.lt (Nat.le_of_eq g1.symm))))).other W3 (Or.inr (slot_ne (Or.inl (wd_119 hw)) (Or.inl (wd_151 hw)) (by decide) (t := (.object "java/util/TreeMap$Entry")) (t' := (.object "java/util/TreeMap$Entry")) (by decide) (by decide))))
  have f21 := (((N_el.2.2.2.2.2.2.2.ext E1).keep Kc2 (ni1 (Nat.ne_of_lt (Nat.lt_of_lt_of_le N_el.2.1.lt (Nat.le_of_eq g1.symm))))).other W3 (Or.inr (slot_ne (Or.inl (wd_113 hw)) (Or.inl (wd_151 hw)) (by decide) (t := .boolean) (t' := (.object "java/util/TreeMap$Entry")) (by decide) (by decide))))
  have nq22 : own_N Z n0 h3 el kl vl .null (.ref b1) (.ref er) (0 : Int32) := ⟨N_el.1, f16, f17, f18, f19, f6, f20, f21⟩
  have f23 := (((N_er.2.1.ext E1).keep Kc2).wr W3)
  have f24 := (((N_er.2.2.1.ext E1).keep Kc2 (ni1 (Nat.ne_of_lt (Nat.lt_of_lt_of_le N_er.2.1.lt (Nat.le_of_eq g1.symm))))).other W3 (Or.inl (Ne.symm ne_el_er)))
  have f25 := (((N_er.2.2.2.1.ext E1).keep Kc2 (ni1 (Nat.ne_of_lt (Nat.lt_of_lt_of_le N_er.2.1.lt (Nat.le_of_eq g1.symm))))).other W3 (Or.inl (Ne.symm ne_el_er)))
  have f26 := (((N_er.2.2.2.2.1.ext E1).keep Kc2 (ni1 (Nat.ne_of_lt (Nat.lt_of_lt_of_le N_er.2.1.lt (Nat.le_of_eq g1.symm))))).other W3 (Or.inl (Ne.symm ne_el_er)))
  have f27 := (((N_er.2.2.2.2.2.1.ext E1).keep Kc2 (ni1 (Nat.ne_of_lt (Nat.lt_of_lt_of_le N_er.2.1.lt (Nat.le_of_eq g1.symm))))).other W3 (Or.inl (Ne.symm ne_el_er)))
  have f28 := (((N_er.2.2.2.2.2.2.1.ext E1).keep Kc2 (ni1 (Nat.ne_of_lt (Nat.lt_of_lt_of_le N_er.2.1.lt (Nat.le_of_eq g1.symm))))).other W3 (Or.inl (Ne.symm ne_el_er)))
  have f29 := (((N_er.2.2.2.2.2.2.2.ext E1).keep Kc2 (ni1 (Nat.ne_of_lt (Nat.lt_of_lt_of_le N_er.2.1.lt (Nat.le_of_eq g1.symm))))).other W3 (Or.inl (Ne.symm ne_el_er)))
  have nq30 : own_N Z n0 h3 er kr vr .null (.ref el) .null (1 : Int32) := ⟨N_er.1, f23, f24, f25, f26, f27, f28, f29⟩
  have f31 := (((M0.2.1.ext E1).keep Kc2).wr W3)
  have f32 := (((M0.2.2.1.ext E1).keep Kc2 (ni1 (Exa.ne f31 f8 (by decide)))).other W3 (Or.inl (Exa.ne f31 f16 (by decide))))
  have f33 := (((M0.2.2.2.1.ext E1).keep Kc2 (ni1 (Exa.ne f31 f8 (by decide)))).other W3 (Or.inl (Exa.ne f31 f16 (by decide))))
  have f34 := (((M0.2.2.2.2.1.ext E1).keep Kc2 (ni1 (Exa.ne f31 f8 (by decide)))).other W3 (Or.inl (Exa.ne f31 f16 (by decide))))
  have f35 := (((M0.2.2.2.2.2.1.ext E1).keep Kc2 (ni1 (Exa.ne f31 f8 (by decide)))).other W3 (Or.inl (Exa.ne f31 f16 (by decide))))
  have f36 := (((M0.2.2.2.2.2.2.ext E1).keep Kc2 (ni1 (Exa.ne f31 f8 (by decide)))).other W3 (Or.inl (Exa.ne f31 f16 (by decide))))
  have mq37 : own_M Z n0 h3 tm (.ref er) ev sz mc := ⟨M0.1, f31, f32, f33, f34, f35, f36⟩
  refine w_callP X k2729_29_35 (wd_157 hw) (wd_158 hw) (wd_160 hw) (wd_159 hw) (wd_25 hw) (wd_161 hw) (by decide) f31 (argsL := [(.ref b1)]) (S := []) (m_fxrr hw nq15 nq22 nq30 mq37 (Ne.symm (Nat.ne_of_lt (Nat.lt_of_lt_of_le N_el.2.1.lt (Nat.le_of_eq g1.symm)))) (Ne.symm (Nat.ne_of_lt (Nat.lt_of_lt_of_le N_er.2.1.lt (Nat.le_of_eq g1.symm)))) ne_el_er) pd_8 rfl rfl rfl (by decide) (leR rfl) (by decide) (by decide) (fun T h4 v4 L4 X q4 => ?_)
  obtain ⟨rfl, N_ex_4, N_el_4, N_er_4, M_4, Kc4⟩ := q4
  have K38 : Keep h0 h4 [el, er, tm] := K7.trans Kc4 (fun x hx => by simp only [List.mem_cons, List.not_mem_nil, or_false] at hx; rcases hx with rfl | rfl | rfl | rfl <;> first | exact (Or.inr sz_b1) | exact (Or.inl (List.mem_of_getElem? (i := 0) rfl)) | exact (Or.inl (List.mem_of_getElem? (i := 1) rfl)) | exact (Or.inl (List.mem_of_getElem? (i := 2) rfl)))
  show Wp _ _ _ _ (T.setTop (mkF _ _ _ []))
  refine w_aloadN X k2729_29_38 rfl (rfl) ?_
  refine w_dup X k2729_29_39 rfl ?_
  refine w_getF X k2729_29_40 (host := "") (Or.inl (wd_36 hw)) Via.refl M_4.2.2.2.1 (fun T X => ?_)
  refine w_iconst X (1 : Int32) k2729_29_43 rfl ?_
  refine w_iadd X k2729_29_44 ?_
  refine w_putF X k2729_29_45 (host := "") (Or.inl (wd_36 hw)) Via.refl M_4.2.2.2.1 M_4.2.1 (Or.inl (wd_37 hw)) (wd_24 hw) (ty := .int) (by decide) rfl rfl M_4.1 (fun T h5 X W5 => ?_)
  have f39 := M_4.2.2.2.1.same W5
  have K40 : Keep h0 h5 [el, er, tm] := K38.wr W5 (Or.inl (List.mem_of_getElem? (i := 2) rfl))
  refine w_aloadN X k2729_29_48 rfl (rfl) ?_
  refine w_dup X k2729_29_49 rfl ?_
  have f41 := (M_4.2.2.2.2.1.other W5 (Or.inr (slot_ne (Or.inl (wd_39 hw)) (Or.inl (wd_37 hw)) (by decide) (t := .int) (t' := .int) (by decide) (by decide))))
  refine w_getF X k2729_29_50 (host := "") (Or.inl (wd_38 hw)) Via.refl f41 (fun T X => ?_)
  refine w_iconst X (1 : Int32) k2729_29_53 rfl ?_
  refine w_iadd X k2729_29_54 ?_
  have f42 := (M_4.2.1.wr W5)
  refine w_putF X k2729_29_55 (host := "") (Or.inl (wd_38 hw)) Via.refl f41 f42 (Or.inl (wd_39 hw)) (wd_24 hw) (ty := .int) (by decide) rfl rfl M_4.1 (fun T h6 X W6 => ?_)
  have f43 := f41.same W6
  have K44 : Keep h0 h6 [el, er, tm] := K40.wr W6 (Or.inl (List.mem_of_getElem? (i := 2) rfl))
  have f45 := ((N_ex_4.2.1.wr W5).wr W6)
  have f46 := (f42.wr W6)
  have f47 := ((N_ex_4.2.2.1.other W5 (Or.inl (Exa.ne f45 f46 (by decide)))).other W6 (Or.inl (Exa.ne f45 f46 (by decide))))
  have f48 := ((N_ex_4.2.2.2.1.other W5 (Or.inl (Exa.ne f45 f46 (by decide)))).other W6 (Or.inl (Exa.ne f45 f46 (by decide))))
  have f49 := ((N_ex_4.2.2.2.2.1.other W5 (Or.inl (Exa.ne f45 f46 (by decide)))).other W6 (Or.inl (Exa.ne f45 f46 (by decide))))
  have f50 := ((N_ex_4.2.2.2.2.2.1.other W5 (Or.inl (Exa.ne f45 f46 (by decide)))).other W6 (Or.inl (Exa.ne f45 f46 (by decide))))
  have f51 := ((N_ex_4.2.2.2.2.2.2.1.other W5 (Or.inl (Exa.ne f45 f46 (by decide)))).other W6 (Or.inl (Exa.ne f45 f46 (by decide))))
  have f52 := ((N_ex_4.2.2.2.2.2.2.2.other W5 (Or.inl (Exa.ne f45 f46 (by decide)))).other W6 (Or.inl (Exa.ne f45 f46 (by decide))))
  have f53 := ((N_el_4.2.1.wr W5).wr W6)
  have f54 := ((N_el_4.2.2.1.other W5 (Or.inl (Exa.ne f53 f46 (by decide)))).other W6 (Or.inl (Exa.ne f53 f46 (by decide))))
  have f55 := ((N_el_4.2.2.2.1.other W5 (Or.inl (Exa.ne f53 f46 (by decide)))).other W6 (Or.inl (Exa.ne f53 f46 (by decide))))
  have f56 := ((N_el_4.2.2.2.2.1.other W5 (Or.inl (Exa.ne f53 f46 (by decide)))).other W6 (Or.inl (Exa.ne f53 f46 (by decide))))
  have f57 := ((N_el_4.2.2.2.2.2.1.other W5 (Or.inl (Exa.ne f53 f46 (by decide)))).other W6 (Or.inl (Exa.ne f53 f46 (by decide))))
  have f58 := ((N_el_4.2.2.2.2.2.2.1.other W5 (Or.inl (Exa.ne f53 f46 (by decide)))).other W6 (Or.inl (Exa.ne f53 f46 (by decide))))
  have f59 := ((N_el_4.2.2.2.2.2.2.2.other W5 (Or.inl (Exa.ne f53 f46 (by decide)))).other W6 (Or.inl (Exa.ne f53 f46 (by decide))))
  have f60 := ((N_er_4.2.1.wr W5).wr W6)
  have f61 := ((N_er_4.2.2.1.other W5 (Or.inl (Exa.ne f60 f46 (by decide)))).other W6 (Or.inl (Exa.ne f60 f46 (by decide))))
  have f62 := ((N_er_4.2.2.2.1.other W5 (Or.inl (Exa.ne f60 f46 (by decide)))).other W6 (Or.inl (Exa.ne f60 f46 (by decide))))
  have f63 := ((N_er_4.2.2.2.2.1.other W5 (Or.inl (Exa.ne f60 f46 (by decide)))).other W6 (Or.inl (Exa.ne f60 f46 (by decide))))
  have f64 := ((N_er_4.2.2.2.2.2.1.other W5 (Or.inl (Exa.ne f60 f46 (by decide)))).other W6 (Or.inl (Exa.ne f60 f46 (by decide))))
  have f65 := ((N_er_4.2.2.2.2.2.2.1.other W5 (Or.inl (Exa.ne f60 f46 (by decide)))).other W6 (Or.inl (Exa.ne f60 f46 (by decide))))
  have f66 := ((N_er_4.2.2.2.2.2.2.2.other W5 (Or.inl (Exa.ne f60 f46 (by decide)))).other W6 (Or.inl (Exa.ne f60 f46 (by decide))))
  have f67 := ((M_4.2.2.1.other W5 (Or.inr (slot_ne (Or.inl (wd_72 hw)) (Or.inl (wd_37 hw)) (by decide) (t := (.object "java/util/TreeMap$Entry")) (t' := .int) (by decide) (by decide)))).other W6 (Or.inr (slot_ne (Or.inl (wd_72 hw)) (Or.inl (wd_39 hw)) (by decide) (t := (.object "java/util/TreeMap$Entry")) (t' := .int) (by decide) (by decide))))
  have f68 := (f39.other W6 (Or.inr (slot_ne (Or.inl (wd_37 hw)) (Or.inl (wd_39 hw)) (by decide) (t := .int) (t' := .int) (by decide) (by decide))))
  have f69 := ((M_4.2.2.2.2.2.1.other W5 (Or.inr (slot_ne (Or.inr (wd_41 hw)) (Or.inl (wd_37 hw)) (by decide) (t := (.object "java/util/Comparator")) (t' := .int) (by decide) (by decide)))).other W6 (Or.inr (slot_ne (Or.inr (wd_41 hw)) (Or.inl (wd_39 hw)) (by decide) (t := (.object "java/util/Comparator")) (t' := .int) (by decide) (by decide))))
  have f70 := ((M_4.2.2.2.2.2.2.other W5 (Or.inr (slot_ne (Or.inl (wd_179 hw)) (Or.inl (wd_37 hw)) (by decide) (t := (.object "java/util/TreeMap$EntrySet")) (t' := .int) (by decide) (by decide)))).other W6 (Or.inr (slot_ne (Or.inl (wd_179 hw)) (Or.inl (wd_39 hw)) (by decide) (t := (.object "java/util/TreeMap$EntrySet")) (t' := .int) (by decide) (by decide))))
  exact w_retV X k2729_29_58 ⟨rfl, b1, sz_b1, ⟨N_ex_4.1, f45, f47, f48, f49, f50, f51, f52⟩, ⟨N_el_4.1, f53, f54, f55, f56, f57, f58, f59⟩, ⟨N_er_4.1, f60, f61, f62, f63, f64, f65, f66⟩, ⟨M_4.1, f46, f67, f68, f43, f69, f70⟩, K44⟩ (by decide) (by decide)
theorem m_aerl (hw : own_hw a0 Z) {h0 : Heap} {el er tm ka va : Addr} {kl vl kr vr ev : Value} {sz mc : Int32} (N_el : own_N Z n0 h0 el kl vl .null .null (.ref er) (0 : Int32)) (N_er : own_N Z n0 h0 er kr vr .null (.ref el) .null (1 : Int32)) (M0 : own_M Z n0 h0 tm (.ref er) ev sz mc) (ne_el_er : el ≠ er) :
    Does l Z n0 ⟨"java/util/TreeMap", "addEntry", "(Ljava/lang/Object;Ljava/lang/Object;Ljava/util/TreeMap$Entry;Z)V"⟩ jdk_2729_method_29_code 6 none [] { frames := 2, cells := 1, slots := 6, locals := 28 } #[(.ref tm), (.ref ka), (.ref va), (.ref el), (.int (1 : Int32))] h0 (fun v h => v = none ∧ ∃ ex, h0.size ≤ ex ∧ own_N Z n0 h ex (.ref ka) (.ref va) (.ref er) (.ref el) .null (1 : Int32) ∧ own_N Z n0 h el kl vl .null .null (.ref ex) (0 : Int32) ∧ own_N Z n0 h er kr vr .null .null (.ref ex) (0 : Int32) ∧ own_M Z n0 h tm (.ref ex) ev (sz + (1 : Int32)) (mc + (1 : Int32)) ∧ Keep h0 h [el, er, tm]) := by
  refine Does.start (plainFor_of_name pn_2) ?_
  intro p e s m below meth c T X
  replace X : Sd _ _ _ _ _ "java/util/TreeMap" "addEntry" _ _ _ _ _ _ _ _ _ _ _ _ _ _ _ _ := X
  refine Wp.cast (g' := mkF m 0 #[.val (.ref tm), .val (.ref ka), .val (.ref va), .val (.ref el), .val (.int (1 : Int32)), .unset] []) (by first | (simp [entryFrame, mkF, argsToLocals, Value.category, maxLocals]; done) | rfl) ?_
  refine w_new X k2729_29_0 (wd_104 hw) (wd_105 hw) (wd_106 hw) (by decide) (by decide) (fun T h1 b1 g1 gn1 X E1 A1 D1 => ?_)
  have sz_b1 : h0.size ≤ b1 := Nat.le_trans (Keep.refl h0 [el, er, tm]).1 (Nat.le_of_eq g1.symm)
  have K1 : Keep h0 h1 [el, er, tm] := (Keep.refl h0 [el, er, tm]).ext E1
  refine w_dup X k2729_29_3 rfl ?_
  refine w_aloadN X k2729_29_4 rfl (rfl) ?_
  refine w_aloadN X k2729_29_5 rfl (rfl) ?_
  refine w_aloadN X k2729_29_6 rfl (rfl) ?_
  have nq2 : own_N Z n0 h1 b1 .null .null .null .null .null (0 : Int32) := ⟨gn1, A1, (show Fld Z h1 b1 "java/util/TreeMap$Entry" "key" "Ljava/lang/Object;" .null from D1 (Or.inl (wd_115 hw)) (ty := (.object "java/lang/Object")) (by decide)), (show Fld Z h1 b1 "java/util/TreeMap$Entry" "value" "Ljava/lang/Object;" .null from D1 (Or.inl (wd_117 hw)) (ty := (.object "java/lang/Object")) (by decide)), (show Fld Z h1 b1 "java/util/TreeMap$Entry" "left" "Ljava/util/TreeMap$Entry;" .null from D1 (Or.inl (wd_220 hw)) (ty := (.object "java/util/TreeMap$Entry")) (by decide)), (show Fld Z h1 b1 "java/util/TreeMap$Entry" "right" "Ljava/util/TreeMap$Entry;" .null from D1 (Or.inl (wd_151 hw)) (ty := (.object "java/util/TreeMap$Entry")) (by decide)), (show Fld Z h1 b1 "java/util/TreeMap$Entry" "parent" "Ljava/util/TreeMap$Entry;" .null from D1 (Or.inl (wd_119 hw)) (ty := (.object "java/util/TreeMap$Entry")) (by decide)), (show Fld Z h1 b1 "java/util/TreeMap$Entry" "color" "Z" (.int (0 : Int32)) from D1 (Or.inl (wd_113 hw)) (ty := .boolean) (by decide))⟩
  refine w_callI X k2729_29_7 rfl (wd_107 hw) (wd_108 hw) (wd_106 hw) (wd_110 hw) (by decide) (argsL := [(.ref ka), (.ref va), (.ref el)]) (S := [(.ref b1)]) (m_eir hw nq2) pd_9 rfl rfl rfl (by decide) (leR rfl) (by decide) (by decide) (fun T h2 v2 L2 X q2 => ?_)
  obtain ⟨rfl, N_2, Kc2⟩ := q2
  have K3 : Keep h0 h2 [el, er, tm] := K1.trans Kc2 (fun x hx => by cases List.mem_singleton.mp hx; exact (Or.inr sz_b1))
  show Wp _ _ _ _ (T.setTop (mkF _ _ _ [(.ref b1)]))
  refine w_astore X #[.val (.ref tm), .val (.ref ka), .val (.ref va), .val (.ref el), .val (.int (1 : Int32)), .val (.ref b1)] k2729_29_10 (rfl) rfl ?_
  refine w_iload X k2729_29_12 rfl ?_
  refine w_ifeq X k2729_29_14 (fun hc => absurd hc (by decide)) (fun _ => ?_)
  refine w_aloadN X k2729_29_17 rfl (rfl) ?_
  refine w_aload X k2729_29_18 rfl (rfl) ?_
  have f4 := ((N_el.2.1.ext E1).keep Kc2)
  have f5 := ((N_el.2.2.2.2.1.ext E1).keep Kc2 (ni1 (Nat.ne_of_lt (Nat.lt_of_lt_of_le N_el.2.1.lt (Nat.le_of_eq g1.symm)))))
  refine w_putF X k2729_29_20 (host := "") (Or.inl (wd_219 hw)) Via.refl f5 f4 (Or.inl (wd_220 hw)) (wd_105 hw) (ty := (.object "java/util/TreeMap$Entry")) (by decide) rfl rfl N_el.1 (fun T h3 X W3 => ?_)
  have f6 := f5.same W3
  have K7 : Keep h0 h3 [el, er, tm] := K3.wr W3 (Or.inl (List.mem_of_getElem? (i := 0) rfl))
  refine w_goto X k2729_29_23 ?_
  refine w_aloadN X k2729_29_32 rfl (rfl) ?_
  refine w_aload X k2729_29_33 rfl (rfl) ?_
  have f8 := (N_2.2.1.wr W3)
  have f9 := (N_2.2.2.1.other W3 (Or.inl (Ne.symm (Nat.ne_of_lt (Nat.lt_of_lt_of_le N_el.2.1.lt (Nat.le_of_eq g1.symm))))))
  have f10 := (N_2.2.2.2.1.other W3 (Or.inl (Ne.symm (Nat.ne_of_lt (Nat.lt_of_lt_of_le N_el.2.1.lt (Nat.le_of_eq g1.symm))))))
  have f11 := (N_2.2.2.2.2.1.other W3 (Or.inl (Ne.symm (Nat.ne_of_lt (Nat.lt_of_lt_of_le N_el.2.1.lt (Nat.le_of_eq g1.symm))))))
  have f12 := (N_2.2.2.2.2.2.1.other W3 (Or.inl (Ne.symm (Nat.ne_of_lt (Nat.lt_of_lt_of_le N_el.2.1.lt (Nat.le_of_eq g1.symm))))))
  have f13 := (N_2.2.2.2.2.2.2.1.other W3 (Or.inl (Ne.symm (Nat.ne_of_lt (Nat.lt_of_lt_of_le N_el.2.1.lt (Nat.le_of_eq g1.symm))))))
  have f14 := (N_2.2.2.2.2.2.2.2.other W3 (Or.inl (Ne.symm (Nat.ne_of_lt (Nat.lt_of_lt_of_le N_el.2.1.lt (Nat.le_of_eq g1.symm))))))
  have nq15 : own_N Z n0 h3 b1 (.ref ka) (.ref va) .null .null (.ref el) (1 : Int32) := ⟨N_2.1, f8, f9, f10, f11, f12, f13, f14⟩
  have f16 := (f4.wr W3)
  have f17 := (((N_el.2.2.1.ext E1).keep Kc2 (ni1 (Nat.ne_of_lt (Nat.lt_of_lt_of_le N_el.2.1.lt (Nat.le_of_eq g1.symm))))).other W3 (Or.inr (slot_ne (Or.inl (wd_115 hw)) (Or.inl (wd_220 hw)) (by decide) (t := (.object "java/lang/Object")) (t' := (.object "java/util/TreeMap$Entry")) (by decide) (by decide))))
  have f18 := (((N_el.2.2.2.1.ext E1).keep Kc2 (ni1 (Nat.ne_of_lt (Nat.lt_of_lt_of_le N_el.2.1.lt (Nat.le_of_eq g1.symm))))).other W3 (Or.inr (slot_ne (Or.inl (wd_117 hw)) (Or.inl (wd_220 hw)) (by decide) (t := (.object "java/lang/Object")) (t' := (.object "java/util/TreeMap$Entry")) (by decide) (by decide))))
  have f19 := (((N_el.2.2.2.2.2.1.ext E1).keep Kc2 (ni1 (Nat.ne_of_lt (Nat.lt_of_lt_of_le N_el.2.1.lt (Nat.le_of_eq g1.symm))))).other W3 (Or.inr (slot_ne (Or.inl (wd_151 hw)) (Or.inl (wd_220 hw)) (by decide) (t := (.object "java/util/TreeMap$Entry")) (t' := (.object "java/util/TreeMap$Entry")) (by decide) (by decide))))
  have f20 := (((N_el.2.2.2.2.2.2.1.ext E1).keep Kc2 (ni1 (Nat.ne_of_lt (Nat.lt_of_lt_of_le N_el.2.1.lt (Nat.le_of_eq g1.symm))))).other W3 (Or.inr (slot_ne (Or.inl (wd_119 hw)) (Or.inl (wd_220 hw)) (by decide) (t := (.object "java/util/TreeMap$Entry")) (t' := (.object "java/util/TreeMap$Entry")) (by decide) (by decide))))
  have f21 := (((N_el.2.2.2.2.2.2.2.ext E1).keep Kc2 (ni1 (Nat.ne_of_lt (Nat.lt_of_lt_of_le N_el.2.1.lt (Nat.le_of_eq g1.symm))))).other W3 (Or.inr (slot_ne (Or.inl (wd_113 hw)) (Or.inl (wd_220 hw)) (by decide) (t := .boolean) (t' := (.object "java/util/TreeMap$Entry")) (by decide) (by decide))))
  have nq22 : own_N Z n0 h3 el kl vl (.ref b1) .null (.ref er) (0 : Int32) := ⟨N_el.1, f16, f17, f18, f6, f19, f20, f21⟩
  have f23 := (((N_er.2.1.ext E1).keep Kc2).wr W3)
  have f24 := (((N_er.2.2.1.ext E1).keep Kc2 (ni1 (Nat.ne_of_lt (Nat.lt_of_lt_of_le N_er.2.1.lt (Nat.le_of_eq g1.symm))))).other W3 (Or.inl (Ne.symm ne_el_er)))
  have f25 := (((N_er.2.2.2.1.ext E1).keep Kc2 (ni1 (Nat.ne_of_lt (Nat.lt_of_lt_of_le N_er.2.1.lt (Nat.le_of_eq g1.symm))))).other W3 (Or.inl (Ne.symm ne_el_er)))
  have f26 := (((N_er.2.2.2.2.1.ext E1).keep Kc2 (ni1 (Nat.ne_of_lt (Nat.lt_of_lt_of_le N_er.2.1.lt (Nat.le_of_eq g1.symm))))).other W3 (Or.inl (Ne.symm ne_el_er)))
  have f27 := (((N_er.2.2.2.2.2.1.ext E1).keep Kc2 (ni1 (Nat.ne_of_lt (Nat.lt_of_lt_of_le N_er.2.1.lt (Nat.le_of_eq g1.symm))))).other W3 (Or.inl (Ne.symm ne_el_er)))
  have f28 := (((N_er.2.2.2.2.2.2.1.ext E1).keep Kc2 (ni1 (Nat.ne_of_lt (Nat.lt_of_lt_of_le N_er.2.1.lt (Nat.le_of_eq g1.symm))))).other W3 (Or.inl (Ne.symm ne_el_er)))
  have f29 := (((N_er.2.2.2.2.2.2.2.ext E1).keep Kc2 (ni1 (Nat.ne_of_lt (Nat.lt_of_lt_of_le N_er.2.1.lt (Nat.le_of_eq g1.symm))))).other W3 (Or.inl (Ne.symm ne_el_er)))
  have nq30 : own_N Z n0 h3 er kr vr .null (.ref el) .null (1 : Int32) := ⟨N_er.1, f23, f24, f25, f26, f27, f28, f29⟩
  have f31 := (((M0.2.1.ext E1).keep Kc2).wr W3)
  have f32 := (((M0.2.2.1.ext E1).keep Kc2 (ni1 (Exa.ne f31 f8 (by decide)))).other W3 (Or.inl (Exa.ne f31 f16 (by decide))))
  have f33 := (((M0.2.2.2.1.ext E1).keep Kc2 (ni1 (Exa.ne f31 f8 (by decide)))).other W3 (Or.inl (Exa.ne f31 f16 (by decide))))
  have f34 := (((M0.2.2.2.2.1.ext E1).keep Kc2 (ni1 (Exa.ne f31 f8 (by decide)))).other W3 (Or.inl (Exa.ne f31 f16 (by decide))))
  have f35 := (((M0.2.2.2.2.2.1.ext E1).keep Kc2 (ni1 (Exa.ne f31 f8 (by decide)))).other W3 (Or.inl (Exa.ne f31 f16 (by decide))))
  have f36 := (((M0.2.2.2.2.2.2.ext E1).keep Kc2 (ni1 (Exa.ne f31 f8 (by decide)))).other W3 (Or.inl (Exa.ne f31 f16 (by decide))))
  have mq37 : own_M Z n0 h3 tm (.ref er) ev sz mc := ⟨M0.1, f31, f32, f33, f34, f35, f36⟩
  refine w_callP X k2729_29_35 (wd_157 hw) (wd_158 hw) (wd_160 hw) (wd_159 hw) (wd_25 hw) (wd_161 hw) (by decide) f31 (argsL := [(.ref b1)]) (S := []) (m_fxrl hw nq15 nq22 nq30 mq37 (Ne.symm (Nat.ne_of_lt (Nat.lt_of_lt_of_le N_el.2.1.lt (Nat.le_of_eq g1.symm)))) (Ne.symm (Nat.ne_of_lt (Nat.lt_of_lt_of_le N_er.2.1.lt (Nat.le_of_eq g1.symm)))) ne_el_er) pd_8 rfl rfl rfl (by decide) (leR rfl) (by decide) (by decide) (fun T h4 v4 L4 X q4 => ?_)
  obtain ⟨rfl, N_ex_4, N_el_4, N_er_4, M_4, Kc4⟩ := q4
  have K38 : Keep h0 h4 [el, er, tm] := K7.trans Kc4 (fun x hx => by simp only [List.mem_cons, List.not_mem_nil, or_false] at hx; rcases hx with rfl | rfl | rfl | rfl <;> first | exact (Or.inr sz_b1) | exact (Or.inl (List.mem_of_getElem? (i := 0) rfl)) | exact (Or.inl (List.mem_of_getElem? (i := 1) rfl)) | exact (Or.inl (List.mem_of_getElem? (i := 2) rfl)))
  show Wp _ _ _ _ (T.setTop (mkF _ _ _ []))
  refine w_aloadN X k2729_29_38 rfl (rfl) ?_
  refine w_dup X k2729_29_39 rfl ?_
  refine w_getF X k2729_29_40 (host := "") (Or.inl (wd_36 hw)) Via.refl M_4.2.2.2.1 (fun T X => ?_)
  refine w_iconst X (1 : Int32) k2729_29_43 rfl ?_
  refine w_iadd X k2729_29_44 ?_
  refine w_putF X k2729_29_45 (host := "") (Or.inl (wd_36 hw)) Via.refl M_4.2.2.2.1 M_4.2.1 (Or.inl (wd_37 hw)) (wd_24 hw) (ty := .int) (by decide) rfl rfl M_4.1 (fun T h5 X W5 => ?_)
  have f39 := M_4.2.2.2.1.same W5
  have K40 : Keep h0 h5 [el, er, tm] := K38.wr W5 (Or.inl (List.mem_of_getElem? (i := 2) rfl))
  refine w_aloadN X k2729_29_48 rfl (rfl) ?_
  refine w_dup X k2729_29_49 rfl ?_
  have f41 := (M_4.2.2.2.2.1.other W5 (Or.inr (slot_ne (Or.inl (wd_39 hw)) (Or.inl (wd_37 hw)) (by decide) (t := .int) (t' := .int) (by decide) (by decide))))
  refine w_getF X k2729_29_50 (host := "") (Or.inl (wd_38 hw)) Via.refl f41 (fun T X => ?_)
  refine w_iconst X (1 : Int32) k2729_29_53 rfl ?_
  refine w_iadd X k2729_29_54 ?_
  have f42 := (M_4.2.1.wr W5)
  refine w_putF X k2729_29_55 (host := "") (Or.inl (wd_38 hw)) Via.refl f41 f42 (Or.inl (wd_39 hw)) (wd_24 hw) (ty := .int) (by decide) rfl rfl M_4.1 (fun T h6 X W6 => ?_)
  have f43 := f41.same W6
  have K44 : Keep h0 h6 [el, er, tm] := K40.wr W6 (Or.inl (List.mem_of_getElem? (i := 2) rfl))
  have f45 := ((N_ex_4.2.1.wr W5).wr W6)
  have f46 := (f42.wr W6)
  have f47 := ((N_ex_4.2.2.1.other W5 (Or.inl (Exa.ne f45 f46 (by decide)))).other W6 (Or.inl (Exa.ne f45 f46 (by decide))))
  have f48 := ((N_ex_4.2.2.2.1.other W5 (Or.inl (Exa.ne f45 f46 (by decide)))).other W6 (Or.inl (Exa.ne f45 f46 (by decide))))
  have f49 := ((N_ex_4.2.2.2.2.1.other W5 (Or.inl (Exa.ne f45 f46 (by decide)))).other W6 (Or.inl (Exa.ne f45 f46 (by decide))))
  have f50 := ((N_ex_4.2.2.2.2.2.1.other W5 (Or.inl (Exa.ne f45 f46 (by decide)))).other W6 (Or.inl (Exa.ne f45 f46 (by decide))))
  have f51 := ((N_ex_4.2.2.2.2.2.2.1.other W5 (Or.inl (Exa.ne f45 f46 (by decide)))).other W6 (Or.inl (Exa.ne f45 f46 (by decide))))
  have f52 := ((N_ex_4.2.2.2.2.2.2.2.other W5 (Or.inl (Exa.ne f45 f46 (by decide)))).other W6 (Or.inl (Exa.ne f45 f46 (by decide))))
  have f53 := ((N_el_4.2.1.wr W5).wr W6)
  have f54 := ((N_el_4.2.2.1.other W5 (Or.inl (Exa.ne f53 f46 (by decide)))).other W6 (Or.inl (Exa.ne f53 f46 (by decide))))
  have f55 := ((N_el_4.2.2.2.1.other W5 (Or.inl (Exa.ne f53 f46 (by decide)))).other W6 (Or.inl (Exa.ne f53 f46 (by decide))))
  have f56 := ((N_el_4.2.2.2.2.1.other W5 (Or.inl (Exa.ne f53 f46 (by decide)))).other W6 (Or.inl (Exa.ne f53 f46 (by decide))))
  have f57 := ((N_el_4.2.2.2.2.2.1.other W5 (Or.inl (Exa.ne f53 f46 (by decide)))).other W6 (Or.inl (Exa.ne f53 f46 (by decide))))
  have f58 := ((N_el_4.2.2.2.2.2.2.1.other W5 (Or.inl (Exa.ne f53 f46 (by decide)))).other W6 (Or.inl (Exa.ne f53 f46 (by decide))))
  have f59 := ((N_el_4.2.2.2.2.2.2.2.other W5 (Or.inl (Exa.ne f53 f46 (by decide)))).other W6 (Or.inl (Exa.ne f53 f46 (by decide))))
  have f60 := ((N_er_4.2.1.wr W5).wr W6)
  have f61 := ((N_er_4.2.2.1.other W5 (Or.inl (Exa.ne f60 f46 (by decide)))).other W6 (Or.inl (Exa.ne f60 f46 (by decide))))
  have f62 := ((N_er_4.2.2.2.1.other W5 (Or.inl (Exa.ne f60 f46 (by decide)))).other W6 (Or.inl (Exa.ne f60 f46 (by decide))))
  have f63 := ((N_er_4.2.2.2.2.1.other W5 (Or.inl (Exa.ne f60 f46 (by decide)))).other W6 (Or.inl (Exa.ne f60 f46 (by decide))))
  have f64 := ((N_er_4.2.2.2.2.2.1.other W5 (Or.inl (Exa.ne f60 f46 (by decide)))).other W6 (Or.inl (Exa.ne f60 f46 (by decide))))
  have f65 := ((N_er_4.2.2.2.2.2.2.1.other W5 (Or.inl (Exa.ne f60 f46 (by decide)))).other W6 (Or.inl (Exa.ne f60 f46 (by decide))))
  have f66 := ((N_er_4.2.2.2.2.2.2.2.other W5 (Or.inl (Exa.ne f60 f46 (by decide)))).other W6 (Or.inl (Exa.ne f60 f46 (by decide))))
  have f67 := ((M_4.2.2.1.other W5 (Or.inr (slot_ne (Or.inl (wd_72 hw)) (Or.inl (wd_37 hw)) (by decide) (t := (.object "java/util/TreeMap$Entry")) (t' := .int) (by decide) (by decide)))).other W6 (Or.inr (slot_ne (Or.inl (wd_72 hw)) (Or.inl (wd_39 hw)) (by decide) (t := (.object "java/util/TreeMap$Entry")) (t' := .int) (by decide) (by decide))))
  have f68 := (f39.other W6 (Or.inr (slot_ne (Or.inl (wd_37 hw)) (Or.inl (wd_39 hw)) (by decide) (t := .int) (t' := .int) (by decide) (by decide))))
  have f69 := ((M_4.2.2.2.2.2.1.other W5 (Or.inr (slot_ne (Or.inr (wd_41 hw)) (Or.inl (wd_37 hw)) (by decide) (t := (.object "java/util/Comparator")) (t' := .int) (by decide) (by decide)))).other W6 (Or.inr (slot_ne (Or.inr (wd_41 hw)) (Or.inl (wd_39 hw)) (by decide) (t := (.object "java/util/Comparator")) (t' := .int) (by decide) (by decide))))
  have f70 := ((M_4.2.2.2.2.2.2.other W5 (Or.inr (slot_ne (Or.inl (wd_179 hw)) (Or.inl (wd_37 hw)) (by decide) (t := (.object "java/util/TreeMap$EntrySet")) (t' := .int) (by decide) (by decide)))).other W6 (Or.inr (slot_ne (Or.inl (wd_179 hw)) (Or.inl (wd_39 hw)) (by decide) (t := (.object "java/util/TreeMap$EntrySet")) (t' := .int) (by decide) (by decide))))
  exact w_retV X k2729_29_58 ⟨rfl, b1, sz_b1, ⟨N_ex_4.1, f45, f47, f48, f49, f50, f51, f52⟩, ⟨N_el_4.1, f53, f54, f55, f56, f57, f58, f59⟩, ⟨N_er_4.1, f60, f61, f62, f63, f64, f65, f66⟩, ⟨M_4.1, f46, f67, f68, f43, f69, f70⟩, K44⟩ (by decide) (by decide)
theorem m_aem (hw : own_hw a0 Z) {h0 : Heap} {tm ka va : Addr} {ev : Value} {sz mc : Int32} {k : Int64}  (M0 : own_M Z n0 h0 tm .null ev sz mc) (Jk : own_J Z h0 ka k) :
    Does l Z n0 ⟨"java/util/TreeMap", "addEntryToEmptyMap", "(Ljava/lang/Object;Ljava/lang/Object;)V"⟩ jdk_2729_method_30_code 3 none [] { frames := 4, cells := 1, slots := 6, locals := 55 } #[(.ref tm), (.ref ka), (.ref va)] h0 (fun v h => v = none ∧ ∃ ex, h0.size ≤ ex ∧ own_N Z n0 h ex (.ref ka) (.ref va) .null .null .null (1 : Int32) ∧ own_M Z n0 h tm (.ref ex) ev (1 : Int32) (mc + (1 : Int32)) ∧ Keep h0 h [tm]) := by
  refine Does.start (plainFor_of_name pn_2) ?_
  intro p e s m below meth c T X
  replace X : Sd _ _ _ _ _ "java/util/TreeMap" "addEntryToEmptyMap" _ _ _ _ _ _ _ _ _ _ _ _ _ _ _ _ := X
  refine Wp.cast (g' := mkF m 0 #[.val (.ref tm), .val (.ref ka), .val (.ref va)] []) (by first | (simp [entryFrame, mkF, argsToLocals, Value.category, maxLocals]; done) | rfl) ?_
  refine w_aloadN X k2729_30_0 rfl (rfl) ?_
  refine w_aloadN X k2729_30_1 rfl (rfl) ?_
  refine w_aloadN X k2729_30_2 rfl (rfl) ?_
  have jq1 : own_J Z h0 ka k := ⟨Jk.1, Jk.2⟩
  have jq2 : own_J Z h0 ka k := ⟨Jk.1, Jk.2⟩
  refine w_callV X k2729_30_3 (wd_78 hw) (wd_79 hw) (notFace_of_selects (args := #[]) (mvT X.hZ (wd_81 hw))) (wd_81 hw) (wd_80 hw) (wd_25 hw) (wd_82 hw) (by decide) M0.2.1 (argsL := [(.ref ka), (.ref ka)]) (S := []) (m_ctm hw jq1 jq2 M0.2.2.2.2.2.1) pd_10 rfl rfl rfl (by decide) (leR rfl) (by decide) (by decide) (fun T h1 v1 L1 X q1 => ?_)
  obtain ⟨rfl, rfl⟩ := q1
  show Wp _ _ _ _ (T.setTop (mkF _ _ _ [(.int (own_cmp k k))]))
  refine w_pop X k2729_30_6 rfl ?_
  refine w_aloadN X k2729_30_7 rfl (rfl) ?_
  refine w_new X k2729_30_8 (wd_104 hw) (wd_105 hw) (wd_106 hw) (by decide) (by decide) (fun T h2 b2 g2 gn2 X E2 A2 D2 => ?_)
  have sz_b2 : h0.size ≤ b2 := Nat.le_trans (Keep.refl h0 [tm]).1 (Nat.le_of_eq g2.symm)
  have K3 : Keep h0 h2 [tm] := (Keep.refl h0 [tm]).ext E2
  refine w_dup X k2729_30_11 rfl ?_
  refine w_aloadN X k2729_30_12 rfl (rfl) ?_
  refine w_aloadN X k2729_30_13 rfl (rfl) ?_
  refine w_aconstNull X k2729_30_14 ?_
  have nq4 : own_N Z n0 h2 b2 .null .null .null .null .null (0 : Int32) := ⟨gn2, A2, (show Fld Z h2 b2 "java/util/TreeMap$Entry" "key" "Ljava/lang/Object;" .null from D2 (Or.inl (wd_115 hw)) (ty := (.object "java/lang/Object")) (by decide)), (show Fld Z h2 b2 "java/util/TreeMap$Entry" "value" "Ljava/lang/Object;" .null from D2 (Or.inl (wd_117 hw)) (ty := (.object "java/lang/Object")) (by decide)), (show Fld Z h2 b2 "java/util/TreeMap$Entry" "left" "Ljava/util/TreeMap$Entry;" .null from D2 (Or.inl (wd_220 hw)) (ty := (.object "java/util/TreeMap$Entry")) (by decide)), (show Fld Z h2 b2 "java/util/TreeMap$Entry" "right" "Ljava/util/TreeMap$Entry;" .null from D2 (Or.inl (wd_151 hw)) (ty := (.object "java/util/TreeMap$Entry")) (by decide)), (show Fld Z h2 b2 "java/util/TreeMap$Entry" "parent" "Ljava/util/TreeMap$Entry;" .null from D2 (Or.inl (wd_119 hw)) (ty := (.object "java/util/TreeMap$Entry")) (by decide)), (show Fld Z h2 b2 "java/util/TreeMap$Entry" "color" "Z" (.int (0 : Int32)) from D2 (Or.inl (wd_113 hw)) (ty := .boolean) (by decide))⟩
  refine w_callI X k2729_30_15 rfl (wd_107 hw) (wd_108 hw) (wd_106 hw) (wd_110 hw) (by decide) (argsL := [(.ref ka), (.ref va), .null]) (S := [(.ref b2), (.ref tm)]) (m_ein hw nq4) pd_9 rfl rfl rfl (by decide) (leR rfl) (by decide) (by decide) (fun T h3 v3 L3 X q3 => ?_)
  obtain ⟨rfl, N_3, Kc3⟩ := q3
  have K5 : Keep h0 h3 [tm] := K3.trans Kc3 (fun x hx => by cases List.mem_singleton.mp hx; exact (Or.inr sz_b2))
  show Wp _ _ _ _ (T.setTop (mkF _ _ _ [(.ref b2), (.ref tm)]))
  have f6 := ((M0.2.1.ext E2).keep Kc3)
  have f7 := ((M0.2.2.1.ext E2).keep Kc3 (ni1 (Exa.ne f6 N_3.2.1 (by decide))))
  refine w_putF X k2729_30_18 (host := "") (Or.inl (wd_71 hw)) Via.refl f7 f6 (Or.inl (wd_72 hw)) (wd_24 hw) (ty := (.object "java/util/TreeMap$Entry")) (by decide) rfl rfl M0.1 (fun T h4 X W4 => ?_)
  have f8 := f7.same W4
  have K9 : Keep h0 h4 [tm] := K5.wr W4 (Or.inl (List.mem_of_getElem? (i := 0) rfl))
  refine w_aloadN X k2729_30_21 rfl (rfl) ?_
  refine w_iconst X (1 : Int32) k2729_30_22 rfl ?_
  have f10 := (f6.wr W4)
  have f11 := (N_3.2.1.wr W4)
  have f12 := (((M0.2.2.2.1.ext E2).keep Kc3 (ni1 (Exa.ne f10 f11 (by decide)))).other W4 (Or.inr (slot_ne (Or.inl (wd_37 hw)) (Or.inl (wd_72 hw)) (by decide) (t := .int) (t' := (.object "java/util/TreeMap$Entry")) (by decide) (by decide))))
  refine w_putF X k2729_30_23 (host := "") (Or.inl (wd_36 hw)) Via.refl f12 f10 (Or.inl (wd_37 hw)) (wd_24 hw) (ty := .int) (by decide) rfl rfl M0.1 (fun T h5 X W5 => ?_)
  have f13 := f12.same W5
  have K14 : Keep h0 h5 [tm] := K9.wr W5 (Or.inl (List.mem_of_getElem? (i := 0) rfl))
  refine w_aloadN X k2729_30_26 rfl (rfl) ?_
  refine w_dup X k2729_30_27 rfl ?_
  have f15 := (f10.wr W5)
  have f16 := (f11.wr W5)
  have f17 := ((((M0.2.2.2.2.1.ext E2).keep Kc3 (ni1 (Exa.ne f15 f16 (by decide)))).other W4 (Or.inr (slot_ne (Or.inl (wd_39 hw)) (Or.inl (wd_72 hw)) (by decide) (t := .int) (t' := (.object "java/util/TreeMap$Entry")) (by decide) (by decide)))).other W5 (Or.inr (slot_ne (Or.inl (wd_39 hw)) (Or.inl (wd_37 hw)) (by decide) (t := .int) (t' := .int) (by decide) (by decide))))
  refine w_getF X k2729_30_28 (host := "") (Or.inl (wd_38 hw)) Via.refl f17 (fun T X => ?_)
  refine w_iconst X (1 : Int32) k2729_30_31 rfl ?_
  refine w_iadd X k2729_30_32 ?_
  refine w_putF X k2729_30_33 (host := "") (Or.inl (wd_38 hw)) Via.refl f17 f15 (Or.inl (wd_39 hw)) (wd_24 hw) (ty := .int) (by decide) rfl rfl M0.1 (fun T h6 X W6 => ?_)
  have f18 := f17.same W6
  have K19 : Keep h0 h6 [tm] := K14.wr W6 (Or.inl (List.mem_of_getElem? (i := 0) rfl))
  have f20 := (f16.wr W6)
  have f21 := (f15.wr W6)
  have f22 := (((N_3.2.2.1.other W4 (Or.inl (Exa.ne f20 f21 (by decide)))).other W5 (Or.inl (Exa.ne f20 f21 (by decide)))).other W6 (Or.inl (Exa.ne f20 f21 (by decide))))
  have f23 := (((N_3.2.2.2.1.other W4 (Or.inl (Exa.ne f20 f21 (by decide)))).other W5 (Or.inl (Exa.ne f20 f21 (by decide)))).other W6 (Or.inl (Exa.ne f20 f21 (by decide))))
  have f24 := (((N_3.2.2.2.2.1.other W4 (Or.inl (Exa.ne f20 f21 (by decide)))).other W5 (Or.inl (Exa.ne f20 f21 (by decide)))).other W6 (Or.inl (Exa.ne f20 f21 (by decide))))
  have f25 := (((N_3.2.2.2.2.2.1.other W4 (Or.inl (Exa.ne f20 f21 (by decide)))).other W5 (Or.inl (Exa.ne f20 f21 (by decide)))).other W6 (Or.inl (Exa.ne f20 f21 (by decide))))
  have f26 := (((N_3.2.2.2.2.2.2.1.other W4 (Or.inl (Exa.ne f20 f21 (by decide)))).other W5 (Or.inl (Exa.ne f20 f21 (by decide)))).other W6 (Or.inl (Exa.ne f20 f21 (by decide))))
  have f27 := (((N_3.2.2.2.2.2.2.2.other W4 (Or.inl (Exa.ne f20 f21 (by decide)))).other W5 (Or.inl (Exa.ne f20 f21 (by decide)))).other W6 (Or.inl (Exa.ne f20 f21 (by decide))))
  have f28 := ((f8.other W5 (Or.inr (slot_ne (Or.inl (wd_72 hw)) (Or.inl (wd_37 hw)) (by decide) (t := (.object "java/util/TreeMap$Entry")) (t' := .int) (by decide) (by decide)))).other W6 (Or.inr (slot_ne (Or.inl (wd_72 hw)) (Or.inl (wd_39 hw)) (by decide) (t := (.object "java/util/TreeMap$Entry")) (t' := .int) (by decide) (by decide))))
  have f29 := (f13.other W6 (Or.inr (slot_ne (Or.inl (wd_37 hw)) (Or.inl (wd_39 hw)) (by decide) (t := .int) (t' := .int) (by decide) (by decide))))
  have f30 := (((((M0.2.2.2.2.2.1.ext E2).keep Kc3 (ni1 (Exa.ne f21 f20 (by decide)))).other W4 (Or.inr (slot_ne (Or.inr (wd_41 hw)) (Or.inl (wd_72 hw)) (by decide) (t := (.object "java/util/Comparator")) (t' := (.object "java/util/TreeMap$Entry")) (by decide) (by decide)))).other W5 (Or.inr (slot_ne (Or.inr (wd_41 hw)) (Or.inl (wd_37 hw)) (by decide) (t := (.object "java/util/Comparator")) (t' := .int) (by decide) (by decide)))).other W6 (Or.inr (slot_ne (Or.inr (wd_41 hw)) (Or.inl (wd_39 hw)) (by decide) (t := (.object "java/util/Comparator")) (t' := .int) (by decide) (by decide))))
  have f31 := (((((M0.2.2.2.2.2.2.ext E2).keep Kc3 (ni1 (Exa.ne f21 f20 (by decide)))).other W4 (Or.inr (slot_ne (Or.inl (wd_179 hw)) (Or.inl (wd_72 hw)) (by decide) (t := (.object "java/util/TreeMap$EntrySet")) (t' := (.object "java/util/TreeMap$Entry")) (by decide) (by decide)))).other W5 (Or.inr (slot_ne (Or.inl (wd_179 hw)) (Or.inl (wd_37 hw)) (by decide) (t := (.object "java/util/TreeMap$EntrySet")) (t' := .int) (by decide) (by decide)))).other W6 (Or.inr (slot_ne (Or.inl (wd_179 hw)) (Or.inl (wd_39 hw)) (by decide) (t := (.object "java/util/TreeMap$EntrySet")) (t' := .int) (by decide) (by decide))))
  exact w_retV X k2729_30_36 ⟨rfl, b2, sz_b2, ⟨N_3.1, f20, f22, f23, f24, f25, f26, f27⟩, ⟨M0.1, f21, f28, f29, f18, f30, f31⟩, K19⟩ (by decide) (by decide)
theorem m_mv (hw : own_hw a0 Z) {h0 : Heap} {tm ex va vl : Addr} {cn cv : Int64} {kv lv rv pv ro ev : Value} {col sz mc : Int32} {cF : ClassId} {lam : Addr} {ca : Addr} {cc : Cell} (N0 : own_N Z n0 h0 ex kv (.ref vl) lv rv pv col) (M0 : own_M Z n0 h0 tm ro ev sz mc) (Jo : own_J Z h0 vl cn) (Jv : own_J Z h0 va cv) (hL : own_L Z cF lam) (hC : own_C Z ca cc) :
    Does l Z n0 ⟨"java/util/TreeMap", "mergeValue", "(Ljava/util/TreeMap$Entry;Ljava/lang/Object;Ljava/util/function/BiFunction;)Ljava/lang/Object;"⟩ jdk_2729_method_33_code 7 (some (.object "java/lang/Object")) [] { frames := 5, cells := 1, slots := 1, locals := 68 } #[(.ref tm), (.ref ex), (.ref va), (.ref lam)] h0 (fun v h => ∃ bb, v = some (.ref bb) ∧ own_N Z n0 h ex kv (.ref bb) lv rv pv col ∧ own_J Z h bb (cn + cv) ∧ Keep h0 h [ex]) := by
  refine Does.start (plainFor_of_name pn_2) ?_
  intro p e s m below meth c T X
  replace X : Sd _ _ _ _ _ "java/util/TreeMap" "mergeValue" _ _ _ _ _ _ _ _ _ _ _ _ _ _ _ _ := X
  refine Wp.cast (g' := mkF m 0 #[.val (.ref tm), .val (.ref ex), .val (.ref va), .val (.ref lam), .unset, .unset, .unset] []) (by first | (simp [entryFrame, mkF, argsToLocals, Value.category, maxLocals]; done) | rfl) ?_
  refine w_aloadN X k2729_33_0 rfl (rfl) ?_
  refine w_getF X k2729_33_1 (host := "") (Or.inl (wd_133 hw)) Via.refl N0.2.2.2.1 (fun T X => ?_)
  refine w_astore X #[.val (.ref tm), .val (.ref ex), .val (.ref va), .val (.ref lam), .val (.ref vl), .unset, .unset] k2729_33_4 (rfl) rfl ?_
  refine w_aloadN X k2729_33_6 rfl (rfl) ?_
  refine w_getF X k2729_33_7 (host := "") (Or.inl (wd_133 hw)) Via.refl N0.2.2.2.1 (fun T X => ?_)
  refine w_ifnonnullT X k2729_33_10 ?_
  refine w_aloadN X k2729_33_19 rfl (rfl) ?_
  refine w_getF X k2729_33_20 (host := "") (Or.inl (wd_38 hw)) Via.refl M0.2.2.2.2.1 (fun T X => ?_)
  refine w_istore X #[.val (.ref tm), .val (.ref ex), .val (.ref va), .val (.ref lam), .val (.ref vl), .unset, .val (.int mc)] k2729_33_23 rfl ?_
  refine w_aloadN X k2729_33_25 rfl (rfl) ?_
  refine w_aload X k2729_33_26 rfl (rfl) ?_
  refine w_aloadN X k2729_33_28 rfl (rfl) ?_
  have jq1 : own_J Z h0 vl cn := ⟨Jo.1, Jo.2⟩
  have jq2 : own_J Z h0 va cv := ⟨Jv.1, Jv.2⟩
  refine w_fn hw X hL hC k2729_33_29 jq1 jq2 rfl (by decide) (leR rfl) (by decide) (by decide) (fun T h1 b1 L1 X Jb1 Kc1 => ?_)
  have K3 : Keep h0 h1 [ex] := (Keep.refl h0 [ex]).trans Kc1 (fun x hx => nomatch hx)
  show Wp _ _ _ _ (T.setTop (mkF _ _ _ [(.ref b1)]))
  refine w_astore X #[.val (.ref tm), .val (.ref ex), .val (.ref va), .val (.ref lam), .val (.ref vl), .val (.ref b1), .val (.int mc)] k2729_33_34 (rfl) rfl ?_
  refine w_iload X k2729_33_36 rfl ?_
  refine w_aloadN X k2729_33_38 rfl (rfl) ?_
  have f4 := (M0.2.2.2.2.1.keep Kc1 (List.not_mem_nil))
  refine w_getF X k2729_33_39 (host := "") (Or.inl (wd_38 hw)) Via.refl f4 (fun T X => ?_)
  refine w_icmpeq X k2729_33_42 (fun _ => ?_) (fun hc => absurd rfl hc)
  refine w_aload X k2729_33_53 rfl (rfl) ?_
  refine w_ifnonnullT X k2729_33_55 ?_
  refine w_aloadN X k2729_33_65 rfl (rfl) ?_
  refine w_aload X k2729_33_66 rfl (rfl) ?_
  have f5 := (N0.2.1.keep Kc1)
  have f6 := (N0.2.2.2.1.keep Kc1 (List.not_mem_nil))
  refine w_putF X k2729_33_68 (host := "") (Or.inl (wd_133 hw)) Via.refl f6 f5 (Or.inl (wd_117 hw)) (wd_105 hw) (ty := (.object "java/lang/Object")) (by decide) rfl rfl N0.1 (fun T h2 X W2 => ?_)
  have f7 := f6.same W2
  have K8 : Keep h0 h2 [ex] := K3.wr W2 (Or.inl (List.mem_of_getElem? (i := 0) rfl))
  refine w_aload X k2729_33_71 rfl (rfl) ?_
  have f9 := (f5.wr W2)
  have f10 := ((N0.2.2.1.keep Kc1 (List.not_mem_nil)).other W2 (Or.inr (slot_ne (Or.inl (wd_115 hw)) (Or.inl (wd_117 hw)) (by decide) (t := (.object "java/lang/Object")) (t' := (.object "java/lang/Object")) (by decide) (by decide))))
  have f11 := ((N0.2.2.2.2.1.keep Kc1 (List.not_mem_nil)).other W2 (Or.inr (slot_ne (Or.inl (wd_220 hw)) (Or.inl (wd_117 hw)) (by decide) (t := (.object "java/util/TreeMap$Entry")) (t' := (.object "java/lang/Object")) (by decide) (by decide))))
  have f12 := ((N0.2.2.2.2.2.1.keep Kc1 (List.not_mem_nil)).other W2 (Or.inr (slot_ne (Or.inl (wd_151 hw)) (Or.inl (wd_117 hw)) (by decide) (t := (.object "java/util/TreeMap$Entry")) (t' := (.object "java/lang/Object")) (by decide) (by decide))))
  have f13 := ((N0.2.2.2.2.2.2.1.keep Kc1 (List.not_mem_nil)).other W2 (Or.inr (slot_ne (Or.inl (wd_119 hw)) (Or.inl (wd_117 hw)) (by decide) (t := (.object "java/util/TreeMap$Entry")) (t' := (.object "java/lang/Object")) (by decide) (by decide))))
  have f14 := ((N0.2.2.2.2.2.2.2.keep Kc1 (List.not_mem_nil)).other W2 (Or.inr (slot_ne (Or.inl (wd_113 hw)) (Or.inl (wd_117 hw)) (by decide) (t := .boolean) (t' := (.object "java/lang/Object")) (by decide) (by decide))))
  have f15 := (Jb1.1.wr W2)
  have f16 := (Jb1.2.other W2 (Or.inl (Exa.ne f15 f9 (by decide))))
  exact w_retR X rfl (rfl) rfl k2729_33_73 ⟨_, rfl, ⟨N0.1, f9, f10, f7, f11, f12, f13, f14⟩, ⟨f15, f16⟩, K8⟩ (by decide) (by decide)
theorem m_mg0 (hw : own_hw a0 Z) {h0 : Heap} {tm ka va : Addr} {k : Int64} {ev : Value} {sz mc : Int32} {cF : ClassId} {lam : Addr} {ca : Addr} {cc : Cell} (M0 : own_M Z n0 h0 tm .null ev sz mc) (Jk : own_J Z h0 ka k) (Jv : own_J Z h0 va 1) (hL : own_L Z cF lam) (hC : own_C Z ca cc) :
    Does l Z n0 ⟨"java/util/TreeMap", "merge", "(Ljava/lang/Object;Ljava/lang/Object;Ljava/util/function/BiFunction;)Ljava/lang/Object;"⟩ jdk_2729_method_26_code 9 (some (.object "java/lang/Object")) [] { frames := 6, cells := 1, slots := 6, locals := 86 } #[(.ref tm), (.ref ka), (.ref va), (.ref lam)] h0 (fun v h => ∃ rr, v = some (.ref rr) ∧ own_Tr Z n0 h tm ev (own_ins k []) ∧ ∃ ws, Keep h0 h ws ∧ own_cl Z h0 ws) := by
  refine Does.start (plainFor_of_name pn_2) ?_
  intro p e s m below meth c T X
  replace X : Sd _ _ _ _ _ "java/util/TreeMap" "merge" _ _ _ _ _ _ _ _ _ _ _ _ _ _ _ _ := X
  refine Wp.cast (g' := mkF m 0 #[.val (.ref tm), .val (.ref ka), .val (.ref va), .val (.ref lam), .unset, .unset, .unset, .unset, .unset] []) (by first | (simp [entryFrame, mkF, argsToLocals, Value.category, maxLocals]; done) | rfl) ?_
  refine w_aloadN X k2729_26_0 rfl (rfl) ?_
  refine w_callS X k2729_26_1 (wd_67 hw) (wd_68 hw) (wd_69 hw) (wd_70 hw) (by decide) (argsL := [(.ref lam)]) (S := []) (m_rnn hw) pd_11 rfl rfl rfl (by decide) (leR rfl) (by decide) (by decide) (fun T h1 v1 L1 X q1 => ?_)
  obtain ⟨rfl, rfl⟩ := q1
  show Wp _ _ _ _ (T.setTop (mkF _ _ _ [(.ref lam)]))
  refine w_pop X k2729_26_4 rfl ?_
  refine w_aloadN X k2729_26_5 rfl (rfl) ?_
  refine w_callS X k2729_26_6 (wd_67 hw) (wd_68 hw) (wd_69 hw) (wd_70 hw) (by decide) (argsL := [(.ref va)]) (S := []) (m_rnn hw) pd_11 rfl rfl rfl (by decide) (leR rfl) (by decide) (by decide) (fun T h2 v2 L2 X q2 => ?_)
  obtain ⟨rfl, rfl⟩ := q2
  show Wp _ _ _ _ (T.setTop (mkF _ _ _ [(.ref va)]))
  refine w_pop X k2729_26_9 rfl ?_
  refine w_aloadN X k2729_26_10 rfl (rfl) ?_
  refine w_getF X k2729_26_11 (host := "") (Or.inl (wd_71 hw)) Via.refl M0.2.2.1 (fun T X => ?_)
  refine w_astore X #[.val (.ref tm), .val (.ref ka), .val (.ref va), .val (.ref lam), .val .null, .unset, .unset, .unset, .unset] k2729_26_14 (rfl) rfl ?_
  refine w_aload X k2729_26_16 rfl (rfl) ?_
  refine w_ifnonnullF X k2729_26_18 ?_
  refine w_aloadN X k2729_26_21 rfl (rfl) ?_
  refine w_aloadN X k2729_26_22 rfl (rfl) ?_
  refine w_aloadN X k2729_26_23 rfl (rfl) ?_
  have jq1 : own_J Z h0 ka k := ⟨Jk.1, Jk.2⟩
  have mq2 : own_M Z n0 h0 tm .null ev sz mc := ⟨M0.1, M0.2.1, M0.2.2.1, M0.2.2.2.1, M0.2.2.2.2.1, M0.2.2.2.2.2.1, M0.2.2.2.2.2.2⟩
  refine w_callP X k2729_26_24 (wd_73 hw) (wd_74 hw) (wd_76 hw) (wd_75 hw) (wd_25 hw) (wd_77 hw) (by decide) M0.2.1 (argsL := [(.ref ka), (.ref va)]) (S := []) (m_aem hw mq2 jq1) pd_12 rfl rfl rfl (by decide) (leR rfl) (by decide) (by decide) (fun T h3 v3 L3 X q3 => ?_)
  obtain ⟨rfl, x3, gx3, N_ex_3, M_3, Kc3⟩ := q3
  have K3 : Keep h0 h3 [tm] := (Keep.refl h0 [tm]).trans Kc3 (fun x hx => by cases List.mem_singleton.mp hx; exact (Or.inl (List.mem_of_getElem? (i := 0) rfl)))
  have sz_x3 : h0.size ≤ x3 := Nat.le_trans (Keep.refl h0 [tm]).1 gx3
  show Wp _ _ _ _ (T.setTop (mkF _ _ _ []))
  refine w_aloadN X k2729_26_27 rfl (rfl) ?_
  have f4 := (Jk.1.keep Kc3)
  have f5 := (Jk.2.keep Kc3 (ni1 (Exa.ne f4 M_3.2.1 (by decide))))
  have f6 := (Jv.1.keep Kc3)
  have f7 := (Jv.2.keep Kc3 (ni1 (Exa.ne f6 M_3.2.1 (by decide))))
  exact w_retR X rfl (rfl) rfl k2729_26_28 ⟨_, rfl, ⟨_, _, _, ⟨M_3.1, M_3.2.1, M_3.2.2.1, M_3.2.2.2.1, M_3.2.2.2.2.1, M_3.2.2.2.2.2.1, M_3.2.2.2.2.2.2⟩, (by rw [own_i0]; exact ⟨x3, _, _, rfl, ⟨N_ex_3.1, N_ex_3.2.1, N_ex_3.2.2.1, N_ex_3.2.2.2.1, N_ex_3.2.2.2.2.1, N_ex_3.2.2.2.2.2.1, N_ex_3.2.2.2.2.2.2.1, N_ex_3.2.2.2.2.2.2.2⟩, ⟨f4, f5⟩, ⟨f6, f7⟩⟩)⟩, _, K3, (own_clM M0.2.1 own_cl0)⟩ (by decide) (by decide)
theorem m_mg1 (hw : own_hw a0 Z) {h0 : Heap} {tm ka va : Addr} {k : Int64} {ev : Value} {sz mc : Int32} {cF : ClassId} {lam : Addr} {ca : Addr} {cc : Cell} {er kl1 vl1 : Addr} {k1 c1 : Int64} (M0 : own_M Z n0 h0 tm (.ref er) ev sz mc) (N1 : own_N Z n0 h0 er (.ref kl1) (.ref vl1) .null .null .null (1 : Int32)) (J1 : own_J Z h0 kl1 k1) (J2 : own_J Z h0 vl1 c1) (Jk : own_J Z h0 ka k) (Jv : own_J Z h0 va 1) (hL : own_L Z cF lam) (hC : own_C Z ca cc) :
    Does l Z n0 ⟨"java/util/TreeMap", "merge", "(Ljava/lang/Object;Ljava/lang/Object;Ljava/util/function/BiFunction;)Ljava/lang/Object;"⟩ jdk_2729_method_26_code 9 (some (.object "java/lang/Object")) [] { frames := 6, cells := 1, slots := 6, locals := 86 } #[(.ref tm), (.ref ka), (.ref va), (.ref lam)] h0 (fun v h => ∃ rr, v = some (.ref rr) ∧ own_Tr Z n0 h tm ev (own_ins k [(k1, c1)]) ∧ ∃ ws, Keep h0 h ws ∧ own_cl Z h0 ws) := by
  refine Does.start (plainFor_of_name pn_2) ?_
  intro p e s m below meth c T X
  replace X : Sd _ _ _ _ _ "java/util/TreeMap" "merge" _ _ _ _ _ _ _ _ _ _ _ _ _ _ _ _ := X
  refine Wp.cast (g' := mkF m 0 #[.val (.ref tm), .val (.ref ka), .val (.ref va), .val (.ref lam), .unset, .unset, .unset, .unset, .unset] []) (by first | (simp [entryFrame, mkF, argsToLocals, Value.category, maxLocals]; done) | rfl) ?_
  refine w_aloadN X k2729_26_0 rfl (rfl) ?_
  refine w_callS X k2729_26_1 (wd_67 hw) (wd_68 hw) (wd_69 hw) (wd_70 hw) (by decide) (argsL := [(.ref lam)]) (S := []) (m_rnn hw) pd_11 rfl rfl rfl (by decide) (leR rfl) (by decide) (by decide) (fun T h1 v1 L1 X q1 => ?_)
  obtain ⟨rfl, rfl⟩ := q1
  show Wp _ _ _ _ (T.setTop (mkF _ _ _ [(.ref lam)]))
  refine w_pop X k2729_26_4 rfl ?_
  refine w_aloadN X k2729_26_5 rfl (rfl) ?_
  refine w_callS X k2729_26_6 (wd_67 hw) (wd_68 hw) (wd_69 hw) (wd_70 hw) (by decide) (argsL := [(.ref va)]) (S := []) (m_rnn hw) pd_11 rfl rfl rfl (by decide) (leR rfl) (by decide) (by decide) (fun T h2 v2 L2 X q2 => ?_)
  obtain ⟨rfl, rfl⟩ := q2
  show Wp _ _ _ _ (T.setTop (mkF _ _ _ [(.ref va)]))
  refine w_pop X k2729_26_9 rfl ?_
  refine w_aloadN X k2729_26_10 rfl (rfl) ?_
  refine w_getF X k2729_26_11 (host := "") (Or.inl (wd_71 hw)) Via.refl M0.2.2.1 (fun T X => ?_)
  refine w_astore X #[.val (.ref tm), .val (.ref ka), .val (.ref va), .val (.ref lam), .val (.ref er), .unset, .unset, .unset, .unset] k2729_26_14 (rfl) rfl ?_
  refine w_aload X k2729_26_16 rfl (rfl) ?_
  refine w_ifnonnullT X k2729_26_18 ?_
  refine w_aloadN X k2729_26_29 rfl (rfl) ?_
  refine w_getF X k2729_26_30 (host := "") (Or.inl (wd_40 hw)) Via.refl M0.2.2.2.2.2.1 (fun T X => ?_)
  refine w_astore X #[.val (.ref tm), .val (.ref ka), .val (.ref va), .val (.ref lam), .val (.ref er), .unset, .unset, .val .null, .unset] k2729_26_33 (rfl) rfl ?_
  refine w_aload X k2729_26_35 rfl (rfl) ?_
  refine w_ifnullT X k2729_26_37 ?_
  refine w_aloadN X k2729_26_106 rfl (rfl) ?_
  refine w_callS X k2729_26_107 (wd_67 hw) (wd_68 hw) (wd_69 hw) (wd_70 hw) (by decide) (argsL := [(.ref ka)]) (S := []) (m_rnn hw) pd_11 rfl rfl rfl (by decide) (leR rfl) (by decide) (by decide) (fun T h3 v3 L3 X q3 => ?_)
  obtain ⟨rfl, rfl⟩ := q3
  show Wp _ _ _ _ (T.setTop (mkF _ _ _ [(.ref ka)]))
  refine w_pop X k2729_26_110 rfl ?_
  refine w_aloadN X k2729_26_111 rfl (rfl) ?_
  refine w_cast X k2729_26_112 (wd_83 hw) (Ins.of_exa Jk.1 (wd_84 hw)) (fun T X => ?_)
  refine w_astore X #[.val (.ref tm), .val (.ref ka), .val (.ref va), .val (.ref lam), .val (.ref er), .unset, .unset, .val .null, .val (.ref ka)] k2729_26_115 (rfl) rfl ?_
  refine w_aload X k2729_26_117 rfl (rfl) ?_
  refine w_astore X #[.val (.ref tm), .val (.ref ka), .val (.ref va), .val (.ref lam), .val (.ref er), .unset, .val (.ref er), .val .null, .val (.ref ka)] k2729_26_119 (rfl) rfl ?_
  refine w_aload X k2729_26_121 rfl (rfl) ?_
  refine w_aload X k2729_26_123 rfl (rfl) ?_
  refine w_getF X k2729_26_125 (host := "") (Or.inl (wd_127 hw)) Via.refl N1.2.2.1 (fun T X => ?_)
  have jq1 : own_J Z h0 ka k := ⟨Jk.1, Jk.2⟩
  have jq2 : own_J Z h0 kl1 k1 := ⟨J1.1, J1.2⟩
  refine w_callN X k2729_26_128 (wd_85 hw) (wd_86 hw) (wd_87 hw) (wd_88 hw) (wd_89 hw) (wd_90 hw) (wd_91 hw) (wd_84 hw) (wd_53 hw) (wd_92 hw) (by decide) Jk.1 (argsL := [(.ref kl1)]) (S := []) (m_ct2 hw jq1 jq2) pd_2 rfl rfl rfl (by decide) (leR rfl) (by decide) (by decide) (fun T h4 v4 L4 X q4 => ?_)
  obtain ⟨rfl, rfl⟩ := q4
  show Wp _ _ _ _ (T.setTop (mkF _ _ _ [(.int (own_cmp k k1))]))
  refine w_istore X #[.val (.ref tm), .val (.ref ka), .val (.ref va), .val (.ref lam), .val (.ref er), .val (.int (own_cmp k k1)), .val (.ref er), .val .null, .val (.ref ka)] k2729_26_133 rfl ?_
  refine w_iload X k2729_26_135 rfl ?_
  refine w_ifge X k2729_26_137 (fun (hc137 : ¬ (own_cmp k k1) < (0 : Int32)) => ?_) (fun (hc137 : (own_cmp k k1) < (0 : Int32)) => ?_)
  · refine w_iload X k2729_26_150 rfl ?_
    refine w_ifle X k2729_26_152 (fun (hc152 : ¬ (0 : Int32) < (own_cmp k k1)) => ?_) (fun (hc152 : (0 : Int32) < (own_cmp k k1)) => ?_)
    · refine w_aloadN X k2729_26_165 rfl (rfl) ?_
      refine w_aload X k2729_26_166 rfl (rfl) ?_
      refine w_aloadN X k2729_26_168 rfl (rfl) ?_
      refine w_aloadN X k2729_26_169 rfl (rfl) ?_
      have nq3 : own_N Z n0 h0 er (.ref kl1) (.ref vl1) .null .null .null (1 : Int32) := ⟨N1.1, N1.2.1, N1.2.2.1, N1.2.2.2.1, N1.2.2.2.2.1, N1.2.2.2.2.2.1, N1.2.2.2.2.2.2.1, N1.2.2.2.2.2.2.2⟩
      have mq4 : own_M Z n0 h0 tm (.ref er) ev sz mc := ⟨M0.1, M0.2.1, M0.2.2.1, M0.2.2.2.1, M0.2.2.2.2.1, M0.2.2.2.2.2.1, M0.2.2.2.2.2.2⟩
      have jq5 : own_J Z h0 vl1 c1 := ⟨J2.1, J2.2⟩
      have jq6 : own_J Z h0 va (1 : Int64) := ⟨Jv.1, Jv.2⟩
      refine w_callP X k2729_26_170 (wd_128 hw) (wd_129 hw) (wd_131 hw) (wd_130 hw) (wd_25 hw) (wd_132 hw) (by decide) M0.2.1 (argsL := [(.ref er), (.ref va), (.ref lam)]) (S := []) (m_mv hw nq3 mq4 jq5 jq6 hL hC) pd_13 rfl rfl rfl (by decide) (leR rfl) (by decide) (by decide) (fun T h5 v5 L5 X q5 => ?_)
      obtain ⟨bb5, rfl, N_5, Jb5, Kc5⟩ := q5
      have K7 : Keep h0 h5 [tm, er] := (Keep.refl h0 [tm, er]).trans Kc5 (fun x hx => by cases List.mem_singleton.mp hx; exact (Or.inl (List.mem_of_getElem? (i := 1) rfl)))
      show Wp _ _ _ _ (T.setTop (mkF _ _ _ [(.ref bb5)]))
      have f8 := (J1.1.keep Kc5)
      have f9 := (J1.2.keep Kc5 (ni1 (Exa.ne f8 N_5.2.1 (by decide))))
      have f10 := (M0.2.1.keep Kc5)
      have f11 := (M0.2.2.1.keep Kc5 (ni1 (Exa.ne f10 N_5.2.1 (by decide))))
      have f12 := (M0.2.2.2.1.keep Kc5 (ni1 (Exa.ne f10 N_5.2.1 (by decide))))
      have f13 := (M0.2.2.2.2.1.keep Kc5 (ni1 (Exa.ne f10 N_5.2.1 (by decide))))
      have f14 := (M0.2.2.2.2.2.1.keep Kc5 (ni1 (Exa.ne f10 N_5.2.1 (by decide))))
      have f15 := (M0.2.2.2.2.2.2.keep Kc5 (ni1 (Exa.ne f10 N_5.2.1 (by decide))))
      exact w_retR X rfl (rfl) rfl k2729_26_173 ⟨_, rfl, ⟨_, _, _, ⟨M0.1, f10, f11, f12, f13, f14, f15⟩, (by rw [own_ib (own_cl_eq hc137 hc152)]; exact ⟨er, _, _, rfl, ⟨N_5.1, N_5.2.1, N_5.2.2.1, N_5.2.2.2.1, N_5.2.2.2.2.1, N_5.2.2.2.2.2.1, N_5.2.2.2.2.2.2.1, N_5.2.2.2.2.2.2.2⟩, ⟨f8, f9⟩, ⟨Jb5.1, Jb5.2⟩⟩)⟩, _, K7, (own_clM M0.2.1 (own_clE N1.2.1 own_cl0))⟩ (by decide) (by decide)
    · refine w_aload X k2729_26_155 rfl (rfl) ?_
      refine w_getF X k2729_26_157 (host := "") (Or.inl (wd_150 hw)) Via.refl N1.2.2.2.2.2.1 (fun T X => ?_)
      refine w_astore X #[.val (.ref tm), .val (.ref ka), .val (.ref va), .val (.ref lam), .val .null, .val (.int (own_cmp k k1)), .val (.ref er), .val .null, .val (.ref ka)] k2729_26_160 (rfl) rfl ?_
      refine w_goto X k2729_26_162 ?_
      refine w_aload X k2729_26_174 rfl (rfl) ?_
      refine w_ifnonnullF X k2729_26_176 ?_
      refine w_aloadN X k2729_26_179 rfl (rfl) ?_
      refine w_aloadN X k2729_26_180 rfl (rfl) ?_
      refine w_aloadN X k2729_26_181 rfl (rfl) ?_
      refine w_aload X k2729_26_182 rfl (rfl) ?_
      refine w_iload X k2729_26_184 rfl ?_
      refine w_ifge X k2729_26_186 (fun _ => ?_) (fun hc => absurd hc hc137)
      refine w_iconst X (0 : Int32) k2729_26_193 rfl ?_
      have nq16 : own_N Z n0 h0 er (.ref kl1) (.ref vl1) .null .null .null (1 : Int32) := ⟨N1.1, N1.2.1, N1.2.2.1, N1.2.2.2.1, N1.2.2.2.2.1, N1.2.2.2.2.2.1, N1.2.2.2.2.2.2.1, N1.2.2.2.2.2.2.2⟩
      have mq17 : own_M Z n0 h0 tm (.ref er) ev sz mc := ⟨M0.1, M0.2.1, M0.2.2.1, M0.2.2.2.1, M0.2.2.2.2.1, M0.2.2.2.2.2.1, M0.2.2.2.2.2.2⟩
      refine w_callP X k2729_26_194 (wd_152 hw) (wd_153 hw) (wd_155 hw) (wd_154 hw) (wd_25 hw) (wd_156 hw) (by decide) M0.2.1 (argsL := [(.ref ka), (.ref va), (.ref er), (.int (0 : Int32))]) (S := []) (m_aear hw nq16 mq17) pd_14 rfl rfl rfl (by decide) (leR rfl) (by decide) (by decide) (fun T h6 v6 L6 X q6 => ?_)
      obtain ⟨rfl, x6, gx6, N_ex_6, N_er_6, M_6, Kc6⟩ := q6
      have K18 : Keep h0 h6 [tm, er] := (Keep.refl h0 [tm, er]).trans Kc6 (fun x hx => by simp only [List.mem_cons, List.not_mem_nil, or_false] at hx; rcases hx with rfl | rfl <;> first | exact (Or.inl (List.mem_of_getElem? (i := 1) rfl)) | exact (Or.inl (List.mem_of_getElem? (i := 0) rfl)))
      have sz_x6 : h0.size ≤ x6 := Nat.le_trans (Keep.refl h0 [tm, er]).1 gx6
      show Wp _ _ _ _ (T.setTop (mkF _ _ _ []))
      refine w_aloadN X k2729_26_197 rfl (rfl) ?_
      have f19 := (J1.1.keep Kc6)
      have f20 := (J1.2.keep Kc6 (ni2 ⟨(Exa.ne f19 N_er_6.2.1 (by decide)), (Exa.ne f19 M_6.2.1 (by decide))⟩))
      have f21 := (J2.1.keep Kc6)
      have f22 := (J2.2.keep Kc6 (ni2 ⟨(Exa.ne f21 N_er_6.2.1 (by decide)), (Exa.ne f21 M_6.2.1 (by decide))⟩))
      have f23 := (Jk.1.keep Kc6)
      have f24 := (Jk.2.keep Kc6 (ni2 ⟨(Exa.ne f23 N_er_6.2.1 (by decide)), (Exa.ne f23 M_6.2.1 (by decide))⟩))
      have f25 := (Jv.1.keep Kc6)
      have f26 := (Jv.2.keep Kc6 (ni2 ⟨(Exa.ne f25 N_er_6.2.1 (by decide)), (Exa.ne f25 M_6.2.1 (by decide))⟩))
      exact w_retR X rfl (rfl) rfl k2729_26_198 ⟨_, rfl, ⟨_, _, _, ⟨M_6.1, M_6.2.1, M_6.2.2.1, M_6.2.2.2.1, M_6.2.2.2.2.1, M_6.2.2.2.2.2.1, M_6.2.2.2.2.2.2⟩, (by rw [own_ic (own_cl_gt hc137 hc152), own_i0]; exact ⟨(own_cl_gt hc137 hc152), Or.inr ⟨er, x6, _, _, _, _, rfl, (Nat.ne_of_lt (Nat.lt_of_lt_of_le N1.2.1.lt gx6)), ⟨N_er_6.1, N_er_6.2.1, N_er_6.2.2.1, N_er_6.2.2.2.1, N_er_6.2.2.2.2.1, N_er_6.2.2.2.2.2.1, N_er_6.2.2.2.2.2.2.1, N_er_6.2.2.2.2.2.2.2⟩, ⟨N_ex_6.1, N_ex_6.2.1, N_ex_6.2.2.1, N_ex_6.2.2.2.1, N_ex_6.2.2.2.2.1, N_ex_6.2.2.2.2.2.1, N_ex_6.2.2.2.2.2.2.1, N_ex_6.2.2.2.2.2.2.2⟩, ⟨f19, f20⟩, ⟨f21, f22⟩, ⟨f23, f24⟩, ⟨f25, f26⟩⟩⟩)⟩, _, K18, (own_clM M0.2.1 (own_clE N1.2.1 own_cl0))⟩ (by decide) (by decide)
  · refine w_aload X k2729_26_140 rfl (rfl) ?_
    refine w_getF X k2729_26_142 (host := "") (Or.inl (wd_219 hw)) Via.refl N1.2.2.2.2.1 (fun T X => ?_)
    refine w_astore X #[.val (.ref tm), .val (.ref ka), .val (.ref va), .val (.ref lam), .val .null, .val (.int (own_cmp k k1)), .val (.ref er), .val .null, .val (.ref ka)] k2729_26_145 (rfl) rfl ?_
    refine w_goto X k2729_26_147 ?_
    refine w_aload X k2729_26_174 rfl (rfl) ?_
    refine w_ifnonnullF X k2729_26_176 ?_
    refine w_aloadN X k2729_26_179 rfl (rfl) ?_
    refine w_aloadN X k2729_26_180 rfl (rfl) ?_
    refine w_aloadN X k2729_26_181 rfl (rfl) ?_
    refine w_aload X k2729_26_182 rfl (rfl) ?_
    refine w_iload X k2729_26_184 rfl ?_
    refine w_ifge X k2729_26_186 (fun hc => absurd hc137 hc) (fun _ => ?_)
    refine w_iconst X (1 : Int32) k2729_26_189 rfl ?_
    refine w_goto X k2729_26_190 ?_
    have nq27 : own_N Z n0 h0 er (.ref kl1) (.ref vl1) .null .null .null (1 : Int32) := ⟨N1.1, N1.2.1, N1.2.2.1, N1.2.2.2.1, N1.2.2.2.2.1, N1.2.2.2.2.2.1, N1.2.2.2.2.2.2.1, N1.2.2.2.2.2.2.2⟩
    have mq28 : own_M Z n0 h0 tm (.ref er) ev sz mc := ⟨M0.1, M0.2.1, M0.2.2.1, M0.2.2.2.1, M0.2.2.2.2.1, M0.2.2.2.2.2.1, M0.2.2.2.2.2.2⟩
    refine w_callP X k2729_26_194 (wd_152 hw) (wd_153 hw) (wd_155 hw) (wd_154 hw) (wd_25 hw) (wd_156 hw) (by decide) M0.2.1 (argsL := [(.ref ka), (.ref va), (.ref er), (.int (1 : Int32))]) (S := []) (m_aeal hw nq27 mq28) pd_14 rfl rfl rfl (by decide) (leR rfl) (by decide) (by decide) (fun T h7 v7 L7 X q7 => ?_)
    obtain ⟨rfl, x7, gx7, N_ex_7, N_er_7, M_7, Kc7⟩ := q7
    have K29 : Keep h0 h7 [tm, er] := (Keep.refl h0 [tm, er]).trans Kc7 (fun x hx => by simp only [List.mem_cons, List.not_mem_nil, or_false] at hx; rcases hx with rfl | rfl <;> first | exact (Or.inl (List.mem_of_getElem? (i := 1) rfl)) | exact (Or.inl (List.mem_of_getElem? (i := 0) rfl)))
    have sz_x7 : h0.size ≤ x7 := Nat.le_trans (Keep.refl h0 [tm, er]).1 gx7
    show Wp _ _ _ _ (T.setTop (mkF _ _ _ []))
    refine w_aloadN X k2729_26_197 rfl (rfl) ?_
    have f30 := (Jk.1.keep Kc7)
    have f31 := (Jk.2.keep Kc7 (ni2 ⟨(Exa.ne f30 N_er_7.2.1 (by decide)), (Exa.ne f30 M_7.2.1 (by decide))⟩))
    have f32 := (Jv.1.keep Kc7)
    have f33 := (Jv.2.keep Kc7 (ni2 ⟨(Exa.ne f32 N_er_7.2.1 (by decide)), (Exa.ne f32 M_7.2.1 (by decide))⟩))
    have f34 := (J1.1.keep Kc7)
    have f35 := (J1.2.keep Kc7 (ni2 ⟨(Exa.ne f34 N_er_7.2.1 (by decide)), (Exa.ne f34 M_7.2.1 (by decide))⟩))
    have f36 := (J2.1.keep Kc7)
    have f37 := (J2.2.keep Kc7 (ni2 ⟨(Exa.ne f36 N_er_7.2.1 (by decide)), (Exa.ne f36 M_7.2.1 (by decide))⟩))
    exact w_retR X rfl (rfl) rfl k2729_26_198 ⟨_, rfl, ⟨_, _, _, ⟨M_7.1, M_7.2.1, M_7.2.2.1, M_7.2.2.2.1, M_7.2.2.2.2.1, M_7.2.2.2.2.2.1, M_7.2.2.2.2.2.2⟩, (by rw [own_ia (own_cl_lt hc137)]; exact ⟨(own_cl_lt hc137), Or.inl ⟨er, x7, _, _, _, _, rfl, (Nat.ne_of_lt (Nat.lt_of_lt_of_le N1.2.1.lt gx7)), ⟨N_er_7.1, N_er_7.2.1, N_er_7.2.2.1, N_er_7.2.2.2.1, N_er_7.2.2.2.2.1, N_er_7.2.2.2.2.2.1, N_er_7.2.2.2.2.2.2.1, N_er_7.2.2.2.2.2.2.2⟩, ⟨N_ex_7.1, N_ex_7.2.1, N_ex_7.2.2.1, N_ex_7.2.2.2.1, N_ex_7.2.2.2.2.1, N_ex_7.2.2.2.2.2.1, N_ex_7.2.2.2.2.2.2.1, N_ex_7.2.2.2.2.2.2.2⟩, ⟨f30, f31⟩, ⟨f32, f33⟩, ⟨f34, f35⟩, ⟨f36, f37⟩⟩⟩)⟩, _, K29, (own_clM M0.2.1 (own_clE N1.2.1 own_cl0))⟩ (by decide) (by decide)
theorem m_mg2l (hw : own_hw a0 Z) {h0 : Heap} {tm ka va : Addr} {k : Int64} {ev : Value} {sz mc : Int32} {cF : ClassId} {lam : Addr} {ca : Addr} {cc : Cell} {er el kl1 vl1 kl2 vl2 : Addr} {k1 c1 k2 c2 : Int64} (M0 : own_M Z n0 h0 tm (.ref er) ev sz mc) (N1 : own_N Z n0 h0 er (.ref kl2) (.ref vl2) (.ref el) .null .null (1 : Int32)) (N2 : own_N Z n0 h0 el (.ref kl1) (.ref vl1) .null .null (.ref er) (0 : Int32)) (J1 : own_J Z h0 kl1 k1) (J2 : own_J Z h0 vl1 c1) (J3 : own_J Z h0 kl2 k2) (J4 : own_J Z h0 vl2 c2) (h12 : k1 < k2) (nrl : er ≠ el) (Jk : own_J Z h0 ka k) (Jv : own_J Z h0 va 1) (hL : own_L Z cF lam) (hC : own_C Z ca cc) :
    Does l Z n0 ⟨"java/util/TreeMap", "merge", "(Ljava/lang/Object;Ljava/lang/Object;Ljava/util/function/BiFunction;)Ljava/lang/Object;"⟩ jdk_2729_method_26_code 9 (some (.object "java/lang/Object")) [] { frames := 6, cells := 1, slots := 6, locals := 86 } #[(.ref tm), (.ref ka), (.ref va), (.ref lam)] h0 (fun v h => ∃ rr, v = some (.ref rr) ∧ own_Tr Z n0 h tm ev (own_ins k [(k1, c1), (k2, c2)]) ∧ ∃ ws, Keep h0 h ws ∧ own_cl Z h0 ws) := by
  refine Does.start (plainFor_of_name pn_2) ?_
  intro p e s m below meth c T X
  replace X : Sd _ _ _ _ _ "java/util/TreeMap" "merge" _ _ _ _ _ _ _ _ _ _ _ _ _ _ _ _ := X
  refine Wp.cast (g' := mkF m 0 #[.val (.ref tm), .val (.ref ka), .val (.ref va), .val (.ref lam), .unset, .unset, .unset, .unset, .unset] []) (by first | (simp [entryFrame, mkF, argsToLocals, Value.category, maxLocals]; done) | rfl) ?_
  refine w_aloadN X k2729_26_0 rfl (rfl) ?_
  refine w_callS X k2729_26_1 (wd_67 hw) (wd_68 hw) (wd_69 hw) (wd_70 hw) (by decide) (argsL := [(.ref lam)]) (S := []) (m_rnn hw) pd_11 rfl rfl rfl (by decide) (leR rfl) (by decide) (by decide) (fun T h1 v1 L1 X q1 => ?_)
  obtain ⟨rfl, rfl⟩ := q1
  show Wp _ _ _ _ (T.setTop (mkF _ _ _ [(.ref lam)]))
  refine w_pop X k2729_26_4 rfl ?_
  refine w_aloadN X k2729_26_5 rfl (rfl) ?_
  refine w_callS X k2729_26_6 (wd_67 hw) (wd_68 hw) (wd_69 hw) (wd_70 hw) (by decide) (argsL := [(.ref va)]) (S := []) (m_rnn hw) pd_11 rfl rfl rfl (by decide) (leR rfl) (by decide) (by decide) (fun T h2 v2 L2 X q2 => ?_)
  obtain ⟨rfl, rfl⟩ := q2
  show Wp _ _ _ _ (T.setTop (mkF _ _ _ [(.ref va)]))
  refine w_pop X k2729_26_9 rfl ?_
  refine w_aloadN X k2729_26_10 rfl (rfl) ?_
  refine w_getF X k2729_26_11 (host := "") (Or.inl (wd_71 hw)) Via.refl M0.2.2.1 (fun T X => ?_)
  refine w_astore X #[.val (.ref tm), .val (.ref ka), .val (.ref va), .val (.ref lam), .val (.ref er), .unset, .unset, .unset, .unset] k2729_26_14 (rfl) rfl ?_
  refine w_aload X k2729_26_16 rfl (rfl) ?_
  refine w_ifnonnullT X k2729_26_18 ?_
  refine w_aloadN X k2729_26_29 rfl (rfl) ?_
  refine w_getF X k2729_26_30 (host := "") (Or.inl (wd_40 hw)) Via.refl M0.2.2.2.2.2.1 (fun T X => ?_)
  refine w_astore X #[.val (.ref tm), .val (.ref ka), .val (.ref va), .val (.ref lam), .val (.ref er), .unset, .unset, .val .null, .unset] k2729_26_33 (rfl) rfl ?_
  refine w_aload X k2729_26_35 rfl (rfl) ?_
  refine w_ifnullT X k2729_26_37 ?_
  refine w_aloadN X k2729_26_106 rfl (rfl) ?_
  refine w_callS X k2729_26_107 (wd_67 hw) (wd_68 hw) (wd_69 hw) (wd_70 hw) (by decide) (argsL := [(.ref ka)]) (S := []) (m_rnn hw) pd_11 rfl rfl rfl (by decide) (leR rfl) (by decide) (by decide) (fun T h3 v3 L3 X q3 => ?_)
  obtain ⟨rfl, rfl⟩ := q3
  show Wp _ _ _ _ (T.setTop (mkF _ _ _ [(.ref ka)]))
  refine w_pop X k2729_26_110 rfl ?_
  refine w_aloadN X k2729_26_111 rfl (rfl) ?_
  refine w_cast X k2729_26_112 (wd_83 hw) (Ins.of_exa Jk.1 (wd_84 hw)) (fun T X => ?_)
  refine w_astore X #[.val (.ref tm), .val (.ref ka), .val (.ref va), .val (.ref lam), .val (.ref er), .unset, .unset, .val .null, .val (.ref ka)] k2729_26_115 (rfl) rfl ?_
  refine w_aload X k2729_26_117 rfl (rfl) ?_
  refine w_astore X #[.val (.ref tm), .val (.ref ka), .val (.ref va), .val (.ref lam), .val (.ref er), .unset, .val (.ref er), .val .null, .val (.ref ka)] k2729_26_119 (rfl) rfl ?_
  refine w_aload X k2729_26_121 rfl (rfl) ?_
  refine w_aload X k2729_26_123 rfl (rfl) ?_
  refine w_getF X k2729_26_125 (host := "") (Or.inl (wd_127 hw)) Via.refl N1.2.2.1 (fun T X => ?_)
  have jq1 : own_J Z h0 ka k := ⟨Jk.1, Jk.2⟩
  have jq2 : own_J Z h0 kl2 k2 := ⟨J3.1, J3.2⟩
  refine w_callN X k2729_26_128 (wd_85 hw) (wd_86 hw) (wd_87 hw) (wd_88 hw) (wd_89 hw) (wd_90 hw) (wd_91 hw) (wd_84 hw) (wd_53 hw) (wd_92 hw) (by decide) Jk.1 (argsL := [(.ref kl2)]) (S := []) (m_ct2 hw jq1 jq2) pd_2 rfl rfl rfl (by decide) (leR rfl) (by decide) (by decide) (fun T h4 v4 L4 X q4 => ?_)
  obtain ⟨rfl, rfl⟩ := q4
  show Wp _ _ _ _ (T.setTop (mkF _ _ _ [(.int (own_cmp k k2))]))
  refine w_istore X #[.val (.ref tm), .val (.ref ka), .val (.ref va), .val (.ref lam), .val (.ref er), .val (.int (own_cmp k k2)), .val (.ref er), .val .null, .val (.ref ka)] k2729_26_133 rfl ?_
  refine w_iload X k2729_26_135 rfl ?_
  refine w_ifge X k2729_26_137 (fun (hc137 : ¬ (own_cmp k k2) < (0 : Int32)) => ?_) (fun (hc137 : (own_cmp k k2) < (0 : Int32)) => ?_)
  · refine w_iload X k2729_26_150 rfl ?_
    refine w_ifle X k2729_26_152 (fun (hc152 : ¬ (0 : Int32) < (own_cmp k k2)) => ?_) (fun (hc152 : (0 : Int32) < (own_cmp k k2)) => ?_)
    · refine w_aloadN X k2729_26_165 rfl (rfl) ?_
      refine w_aload X k2729_26_166 rfl (rfl) ?_
      refine w_aloadN X k2729_26_168 rfl (rfl) ?_
      refine w_aloadN X k2729_26_169 rfl (rfl) ?_
      have nq3 : own_N Z n0 h0 er (.ref kl2) (.ref vl2) (.ref el) .null .null (1 : Int32) := ⟨N1.1, N1.2.1, N1.2.2.1, N1.2.2.2.1, N1.2.2.2.2.1, N1.2.2.2.2.2.1, N1.2.2.2.2.2.2.1, N1.2.2.2.2.2.2.2⟩
      have mq4 : own_M Z n0 h0 tm (.ref er) ev sz mc := ⟨M0.1, M0.2.1, M0.2.2.1, M0.2.2.2.1, M0.2.2.2.2.1, M0.2.2.2.2.2.1, M0.2.2.2.2.2.2⟩
      have jq5 : own_J Z h0 vl2 c2 := ⟨J4.1, J4.2⟩
      have jq6 : own_J Z h0 va (1 : Int64) := ⟨Jv.1, Jv.2⟩
      refine w_callP X k2729_26_170 (wd_128 hw) (wd_129 hw) (wd_131 hw) (wd_130 hw) (wd_25 hw) (wd_132 hw) (by decide) M0.2.1 (argsL := [(.ref er), (.ref va), (.ref lam)]) (S := []) (m_mv hw nq3 mq4 jq5 jq6 hL hC) pd_13 rfl rfl rfl (by decide) (leR rfl) (by decide) (by decide) (fun T h5 v5 L5 X q5 => ?_)
      obtain ⟨bb5, rfl, N_5, Jb5, Kc5⟩ := q5
      have K7 : Keep h0 h5 [tm, er, el] := (Keep.refl h0 [tm, er, el]).trans Kc5 (fun x hx => by cases List.mem_singleton.mp hx; exact (Or.inl (List.mem_of_getElem? (i := 1) rfl)))
      show Wp _ _ _ _ (T.setTop (mkF _ _ _ [(.ref bb5)]))
      have f8 := (N2.2.1.keep Kc5)
      have f9 := (N2.2.2.1.keep Kc5 (ni1 (Ne.symm nrl)))
      have f10 := (N2.2.2.2.1.keep Kc5 (ni1 (Ne.symm nrl)))
      have f11 := (N2.2.2.2.2.1.keep Kc5 (ni1 (Ne.symm nrl)))
      have f12 := (N2.2.2.2.2.2.1.keep Kc5 (ni1 (Ne.symm nrl)))
      have f13 := (N2.2.2.2.2.2.2.1.keep Kc5 (ni1 (Ne.symm nrl)))
      have f14 := (N2.2.2.2.2.2.2.2.keep Kc5 (ni1 (Ne.symm nrl)))
      have f15 := (J1.1.keep Kc5)
      have f16 := (J1.2.keep Kc5 (ni1 (Exa.ne f15 N_5.2.1 (by decide))))
      have f17 := (J2.1.keep Kc5)
      have f18 := (J2.2.keep Kc5 (ni1 (Exa.ne f17 N_5.2.1 (by decide))))
      have f19 := (J3.1.keep Kc5)
      have f20 := (J3.2.keep Kc5 (ni1 (Exa.ne f19 N_5.2.1 (by decide))))
      have f21 := (M0.2.1.keep Kc5)
      have f22 := (M0.2.2.1.keep Kc5 (ni1 (Exa.ne f21 N_5.2.1 (by decide))))
      have f23 := (M0.2.2.2.1.keep Kc5 (ni1 (Exa.ne f21 N_5.2.1 (by decide))))
      have f24 := (M0.2.2.2.2.1.keep Kc5 (ni1 (Exa.ne f21 N_5.2.1 (by decide))))
      have f25 := (M0.2.2.2.2.2.1.keep Kc5 (ni1 (Exa.ne f21 N_5.2.1 (by decide))))
      have f26 := (M0.2.2.2.2.2.2.keep Kc5 (ni1 (Exa.ne f21 N_5.2.1 (by decide))))
      exact w_retR X rfl (rfl) rfl k2729_26_173 ⟨_, rfl, ⟨_, _, _, ⟨M0.1, f21, f22, f23, f24, f25, f26⟩, (by rw [own_ic (own_lt_eq h12 (own_cl_eq hc137 hc152)), own_ib (own_cl_eq hc137 hc152)]; exact ⟨h12, Or.inl ⟨er, el, _, _, _, _, rfl, nrl, ⟨N_5.1, N_5.2.1, N_5.2.2.1, N_5.2.2.2.1, N_5.2.2.2.2.1, N_5.2.2.2.2.2.1, N_5.2.2.2.2.2.2.1, N_5.2.2.2.2.2.2.2⟩, ⟨N2.1, f8, f9, f10, f11, f12, f13, f14⟩, ⟨f15, f16⟩, ⟨f17, f18⟩, ⟨f19, f20⟩, ⟨Jb5.1, Jb5.2⟩⟩⟩)⟩, _, K7, (own_clM M0.2.1 (own_clE N1.2.1 (own_clE N2.2.1 own_cl0)))⟩ (by decide) (by decide)
    · refine w_aload X k2729_26_155 rfl (rfl) ?_
      refine w_getF X k2729_26_157 (host := "") (Or.inl (wd_150 hw)) Via.refl N1.2.2.2.2.2.1 (fun T X => ?_)
      refine w_astore X #[.val (.ref tm), .val (.ref ka), .val (.ref va), .val (.ref lam), .val .null, .val (.int (own_cmp k k2)), .val (.ref er), .val .null, .val (.ref ka)] k2729_26_160 (rfl) rfl ?_
      refine w_goto X k2729_26_162 ?_
      refine w_aload X k2729_26_174 rfl (rfl) ?_
      refine w_ifnonnullF X k2729_26_176 ?_
      refine w_aloadN X k2729_26_179 rfl (rfl) ?_
      refine w_aloadN X k2729_26_180 rfl (rfl) ?_
      refine w_aloadN X k2729_26_181 rfl (rfl) ?_
      refine w_aload X k2729_26_182 rfl (rfl) ?_
      refine w_iload X k2729_26_184 rfl ?_
      refine w_ifge X k2729_26_186 (fun _ => ?_) (fun hc => absurd hc hc137)
      refine w_iconst X (0 : Int32) k2729_26_193 rfl ?_
      have nq27 : own_N Z n0 h0 er (.ref kl2) (.ref vl2) (.ref el) .null .null (1 : Int32) := ⟨N1.1, N1.2.1, N1.2.2.1, N1.2.2.2.1, N1.2.2.2.2.1, N1.2.2.2.2.2.1, N1.2.2.2.2.2.2.1, N1.2.2.2.2.2.2.2⟩
      have mq28 : own_M Z n0 h0 tm (.ref er) ev sz mc := ⟨M0.1, M0.2.1, M0.2.2.1, M0.2.2.2.1, M0.2.2.2.2.1, M0.2.2.2.2.2.1, M0.2.2.2.2.2.2⟩
      refine w_callP X k2729_26_194 (wd_152 hw) (wd_153 hw) (wd_155 hw) (wd_154 hw) (wd_25 hw) (wd_156 hw) (by decide) M0.2.1 (argsL := [(.ref ka), (.ref va), (.ref er), (.int (0 : Int32))]) (S := []) (m_aear hw nq27 mq28) pd_14 rfl rfl rfl (by decide) (leR rfl) (by decide) (by decide) (fun T h6 v6 L6 X q6 => ?_)
      obtain ⟨rfl, x6, gx6, N_ex_6, N_er_6, M_6, Kc6⟩ := q6
      have K29 : Keep h0 h6 [tm, er, el] := (Keep.refl h0 [tm, er, el]).trans Kc6 (fun x hx => by simp only [List.mem_cons, List.not_mem_nil, or_false] at hx; rcases hx with rfl | rfl <;> first | exact (Or.inl (List.mem_of_getElem? (i := 1) rfl)) | exact (Or.inl (List.mem_of_getElem? (i := 0) rfl)))
      have sz_x6 : h0.size ≤ x6 := Nat.le_trans (Keep.refl h0 [tm, er, el]).1 gx6
      show Wp _ _ _ _ (T.setTop (mkF _ _ _ []))
      refine w_aloadN X k2729_26_197 rfl (rfl) ?_
      have f30 := (N2.2.1.keep Kc6)
      have f31 := (N2.2.2.1.keep Kc6 (ni2 ⟨(Ne.symm nrl), (Exa.ne f30 M_6.2.1 (by decide))⟩))
      have f32 := (N2.2.2.2.1.keep Kc6 (ni2 ⟨(Ne.symm nrl), (Exa.ne f30 M_6.2.1 (by decide))⟩))
      have f33 := (N2.2.2.2.2.1.keep Kc6 (ni2 ⟨(Ne.symm nrl), (Exa.ne f30 M_6.2.1 (by decide))⟩))
      have f34 := (N2.2.2.2.2.2.1.keep Kc6 (ni2 ⟨(Ne.symm nrl), (Exa.ne f30 M_6.2.1 (by decide))⟩))
      have f35 := (N2.2.2.2.2.2.2.1.keep Kc6 (ni2 ⟨(Ne.symm nrl), (Exa.ne f30 M_6.2.1 (by decide))⟩))
      have f36 := (N2.2.2.2.2.2.2.2.keep Kc6 (ni2 ⟨(Ne.symm nrl), (Exa.ne f30 M_6.2.1 (by decide))⟩))
      have f37 := (J1.1.keep Kc6)
      have f38 := (J1.2.keep Kc6 (ni2 ⟨(Exa.ne f37 N_er_6.2.1 (by decide)), (Exa.ne f37 M_6.2.1 (by decide))⟩))
      have f39 := (J2.1.keep Kc6)
      have f40 := (J2.2.keep Kc6 (ni2 ⟨(Exa.ne f39 N_er_6.2.1 (by decide)), (Exa.ne f39 M_6.2.1 (by decide))⟩))
      have f41 := (J3.1.keep Kc6)
      have f42 := (J3.2.keep Kc6 (ni2 ⟨(Exa.ne f41 N_er_6.2.1 (by decide)), (Exa.ne f41 M_6.2.1 (by decide))⟩))
      have f43 := (J4.1.keep Kc6)
      have f44 := (J4.2.keep Kc6 (ni2 ⟨(Exa.ne f43 N_er_6.2.1 (by decide)), (Exa.ne f43 M_6.2.1 (by decide))⟩))
      have f45 := (Jk.1.keep Kc6)
      have f46 := (Jk.2.keep Kc6 (ni2 ⟨(Exa.ne f45 N_er_6.2.1 (by decide)), (Exa.ne f45 M_6.2.1 (by decide))⟩))
      have f47 := (Jv.1.keep Kc6)
      have f48 := (Jv.2.keep Kc6 (ni2 ⟨(Exa.ne f47 N_er_6.2.1 (by decide)), (Exa.ne f47 M_6.2.1 (by decide))⟩))
      exact w_retR X rfl (rfl) rfl k2729_26_198 ⟨_, rfl, ⟨_, _, _, ⟨M_6.1, M_6.2.1, M_6.2.2.1, M_6.2.2.2.1, M_6.2.2.2.2.1, M_6.2.2.2.2.2.1, M_6.2.2.2.2.2.2⟩, (by rw [own_ic (Int64.lt_trans h12 (own_cl_gt hc137 hc152)), own_ic (own_cl_gt hc137 hc152), own_i0]; exact ⟨er, el, x6, _, _, _, _, _, _, rfl, (Nat.ne_of_lt (Nat.lt_of_lt_of_le N2.2.1.lt gx6)), ⟨N_er_6.1, N_er_6.2.1, N_er_6.2.2.1, N_er_6.2.2.2.1, N_er_6.2.2.2.2.1, N_er_6.2.2.2.2.2.1, N_er_6.2.2.2.2.2.2.1, N_er_6.2.2.2.2.2.2.2⟩, ⟨N2.1, f30, f31, f32, f33, f34, f35, f36⟩, ⟨N_ex_6.1, N_ex_6.2.1, N_ex_6.2.2.1, N_ex_6.2.2.2.1, N_ex_6.2.2.2.2.1, N_ex_6.2.2.2.2.2.1, N_ex_6.2.2.2.2.2.2.1, N_ex_6.2.2.2.2.2.2.2⟩, ⟨f37, f38⟩, ⟨f39, f40⟩, ⟨f41, f42⟩, ⟨f43, f44⟩, ⟨f45, f46⟩, ⟨f47, f48⟩⟩)⟩, _, K29, (own_clM M0.2.1 (own_clE N1.2.1 (own_clE N2.2.1 own_cl0)))⟩ (by decide) (by decide)
  · refine w_aload X k2729_26_140 rfl (rfl) ?_
    refine w_getF X k2729_26_142 (host := "") (Or.inl (wd_219 hw)) Via.refl N1.2.2.2.2.1 (fun T X => ?_)
    refine w_astore X #[.val (.ref tm), .val (.ref ka), .val (.ref va), .val (.ref lam), .val (.ref el), .val (.int (own_cmp k k2)), .val (.ref er), .val .null, .val (.ref ka)] k2729_26_145 (rfl) rfl ?_
    refine w_goto X k2729_26_147 ?_
    refine w_aload X k2729_26_174 rfl (rfl) ?_
    refine w_ifnonnullT X k2729_26_176 ?_
    refine w_aload X k2729_26_117 rfl (rfl) ?_
    refine w_astore X #[.val (.ref tm), .val (.ref ka), .val (.ref va), .val (.ref lam), .val (.ref el), .val (.int (own_cmp k k2)), .val (.ref el), .val .null, .val (.ref ka)] k2729_26_119 (rfl) rfl ?_
    refine w_aload X k2729_26_121 rfl (rfl) ?_
    refine w_aload X k2729_26_123 rfl (rfl) ?_
    refine w_getF X k2729_26_125 (host := "") (Or.inl (wd_127 hw)) Via.refl N2.2.2.1 (fun T X => ?_)
    have jq49 : own_J Z h0 ka k := ⟨Jk.1, Jk.2⟩
    have jq50 : own_J Z h0 kl1 k1 := ⟨J1.1, J1.2⟩
    refine w_callN X k2729_26_128 (wd_85 hw) (wd_86 hw) (wd_87 hw) (wd_88 hw) (wd_89 hw) (wd_90 hw) (wd_91 hw) (wd_84 hw) (wd_53 hw) (wd_92 hw) (by decide) Jk.1 (argsL := [(.ref kl1)]) (S := []) (m_ct2 hw jq49 jq50) pd_2 rfl rfl rfl (by decide) (leR rfl) (by decide) (by decide) (fun T h7 v7 L7 X q7 => ?_)
    obtain ⟨rfl, rfl⟩ := q7
    show Wp _ _ _ _ (T.setTop (mkF _ _ _ [(.int (own_cmp k k1))]))
    refine w_istore X #[.val (.ref tm), .val (.ref ka), .val (.ref va), .val (.ref lam), .val (.ref el), .val (.int (own_cmp k k1)), .val (.ref el), .val .null, .val (.ref ka)] k2729_26_133 rfl ?_
    refine w_iload X k2729_26_135 rfl ?_
    refine w_ifge X k2729_26_137 (fun (hc137_1 : ¬ (own_cmp k k1) < (0 : Int32)) => ?_) (fun (hc137_1 : (own_cmp k k1) < (0 : Int32)) => ?_)
    · refine w_iload X k2729_26_150 rfl ?_
      refine w_ifle X k2729_26_152 (fun (hc152 : ¬ (0 : Int32) < (own_cmp k k1)) => ?_) (fun (hc152 : (0 : Int32) < (own_cmp k k1)) => ?_)
      · refine w_aloadN X k2729_26_165 rfl (rfl) ?_
        refine w_aload X k2729_26_166 rfl (rfl) ?_
        refine w_aloadN X k2729_26_168 rfl (rfl) ?_
        refine w_aloadN X k2729_26_169 rfl (rfl) ?_
        have nq51 : own_N Z n0 h0 el (.ref kl1) (.ref vl1) .null .null (.ref er) (0 : Int32) := ⟨N2.1, N2.2.1, N2.2.2.1, N2.2.2.2.1, N2.2.2.2.2.1, N2.2.2.2.2.2.1, N2.2.2.2.2.2.2.1, N2.2.2.2.2.2.2.2⟩
        have mq52 : own_M Z n0 h0 tm (.ref er) ev sz mc := ⟨M0.1, M0.2.1, M0.2.2.1, M0.2.2.2.1, M0.2.2.2.2.1, M0.2.2.2.2.2.1, M0.2.2.2.2.2.2⟩
        have jq53 : own_J Z h0 vl1 c1 := ⟨J2.1, J2.2⟩
        have jq54 : own_J Z h0 va (1 : Int64) := ⟨Jv.1, Jv.2⟩
        refine w_callP X k2729_26_170 (wd_128 hw) (wd_129 hw) (wd_131 hw) (wd_130 hw) (wd_25 hw) (wd_132 hw) (by decide) M0.2.1 (argsL := [(.ref el), (.ref va), (.ref lam)]) (S := []) (m_mv hw nq51 mq52 jq53 jq54 hL hC) pd_13 rfl rfl rfl (by decide) (leR rfl) (by decide) (by decide) (fun T h8 v8 L8 X q8 => ?_)
        obtain ⟨bb8, rfl, N_8, Jb8, Kc8⟩ := q8
        have K55 : Keep h0 h8 [tm, er, el] := (Keep.refl h0 [tm, er, el]).trans Kc8 (fun x hx => by cases List.mem_singleton.mp hx; exact (Or.inl (List.mem_of_getElem? (i := 2) rfl)))
        show Wp _ _ _ _ (T.setTop (mkF _ _ _ [(.ref bb8)]))
        have f56 := (N1.2.1.keep Kc8)
        have f57 := (N1.2.2.1.keep Kc8 (ni1 nrl))
        have f58 := (N1.2.2.2.1.keep Kc8 (ni1 nrl))
        have f59 := (N1.2.2.2.2.1.keep Kc8 (ni1 nrl))
        have f60 := (N1.2.2.2.2.2.1.keep Kc8 (ni1 nrl))
        have f61 := (N1.2.2.2.2.2.2.1.keep Kc8 (ni1 nrl))
        have f62 := (N1.2.2.2.2.2.2.2.keep Kc8 (ni1 nrl))
        have f63 := (J1.1.keep Kc8)
        have f64 := (J1.2.keep Kc8 (ni1 (Exa.ne f63 N_8.2.1 (by decide))))
        have f65 := (J3.1.keep Kc8)
        have f66 := (J3.2.keep Kc8 (ni1 (Exa.ne f65 N_8.2.1 (by decide))))
        have f67 := (J4.1.keep Kc8)
        have f68 := (J4.2.keep Kc8 (ni1 (Exa.ne f67 N_8.2.1 (by decide))))
        have f69 := (M0.2.1.keep Kc8)
        have f70 := (M0.2.2.1.keep Kc8 (ni1 (Exa.ne f69 N_8.2.1 (by decide))))
        have f71 := (M0.2.2.2.1.keep Kc8 (ni1 (Exa.ne f69 N_8.2.1 (by decide))))
        have f72 := (M0.2.2.2.2.1.keep Kc8 (ni1 (Exa.ne f69 N_8.2.1 (by decide))))
        have f73 := (M0.2.2.2.2.2.1.keep Kc8 (ni1 (Exa.ne f69 N_8.2.1 (by decide))))
        have f74 := (M0.2.2.2.2.2.2.keep Kc8 (ni1 (Exa.ne f69 N_8.2.1 (by decide))))
        exact w_retR X rfl (rfl) rfl k2729_26_173 ⟨_, rfl, ⟨_, _, _, ⟨M0.1, f69, f70, f71, f72, f73, f74⟩, (by rw [own_ib (own_cl_eq hc137_1 hc152)]; exact ⟨h12, Or.inl ⟨er, el, _, _, _, _, rfl, nrl, ⟨N1.1, f56, f57, f58, f59, f60, f61, f62⟩, ⟨N_8.1, N_8.2.1, N_8.2.2.1, N_8.2.2.2.1, N_8.2.2.2.2.1, N_8.2.2.2.2.2.1, N_8.2.2.2.2.2.2.1, N_8.2.2.2.2.2.2.2⟩, ⟨f63, f64⟩, ⟨Jb8.1, Jb8.2⟩, ⟨f65, f66⟩, ⟨f67, f68⟩⟩⟩)⟩, _, K55, (own_clM M0.2.1 (own_clE N1.2.1 (own_clE N2.2.1 own_cl0)))⟩ (by decide) (by decide)
      · refine w_aload X k2729_26_155 rfl (rfl) ?_
        refine w_getF X k2729_26_157 (host := "") (Or.inl (wd_150 hw)) Via.refl N2.2.2.2.2.2.1 (fun T X => ?_)
        refine w_astore X #[.val (.ref tm), .val (.ref ka), .val (.ref va), .val (.ref lam), .val .null, .val (.int (own_cmp k k1)), .val (.ref el), .val .null, .val (.ref ka)] k2729_26_160 (rfl) rfl ?_
        refine w_goto X k2729_26_162 ?_
        refine w_aload X k2729_26_174 rfl (rfl) ?_
        refine w_ifnonnullF X k2729_26_176 ?_
        refine w_aloadN X k2729_26_179 rfl (rfl) ?_
        refine w_aloadN X k2729_26_180 rfl (rfl) ?_
        refine w_aloadN X k2729_26_181 rfl (rfl) ?_
        refine w_aload X k2729_26_182 rfl (rfl) ?_
        refine w_iload X k2729_26_184 rfl ?_
        refine w_ifge X k2729_26_186 (fun _ => ?_) (fun hc => absurd hc hc137_1)
        refine w_iconst X (0 : Int32) k2729_26_193 rfl ?_
        have nq75 : own_N Z n0 h0 el (.ref kl1) (.ref vl1) .null .null (.ref er) (0 : Int32) := ⟨N2.1, N2.2.1, N2.2.2.1, N2.2.2.2.1, N2.2.2.2.2.1, N2.2.2.2.2.2.1, N2.2.2.2.2.2.2.1, N2.2.2.2.2.2.2.2⟩
        have nq76 : own_N Z n0 h0 er (.ref kl2) (.ref vl2) (.ref el) .null .null (1 : Int32) := ⟨N1.1, N1.2.1, N1.2.2.1, N1.2.2.2.1, N1.2.2.2.2.1, N1.2.2.2.2.2.1, N1.2.2.2.2.2.2.1, N1.2.2.2.2.2.2.2⟩
        have mq77 : own_M Z n0 h0 tm (.ref er) ev sz mc := ⟨M0.1, M0.2.1, M0.2.2.1, M0.2.2.2.1, M0.2.2.2.2.1, M0.2.2.2.2.2.1, M0.2.2.2.2.2.2⟩
        refine w_callP X k2729_26_194 (wd_152 hw) (wd_153 hw) (wd_155 hw) (wd_154 hw) (wd_25 hw) (wd_156 hw) (by decide) M0.2.1 (argsL := [(.ref ka), (.ref va), (.ref el), (.int (0 : Int32))]) (S := []) (m_aelr hw nq75 nq76 mq77 (Ne.symm nrl)) pd_14 rfl rfl rfl (by decide) (leR rfl) (by decide) (by decide) (fun T h9 v9 L9 X q9 => ?_)
        obtain ⟨rfl, x9, gx9, N_ex_9, N_el_9, N_er_9, M_9, Kc9⟩ := q9
        have K78 : Keep h0 h9 [tm, er, el] := (Keep.refl h0 [tm, er, el]).trans Kc9 (fun x hx => by simp only [List.mem_cons, List.not_mem_nil, or_false] at hx; rcases hx with rfl | rfl | rfl <;> first | exact (Or.inl (List.mem_of_getElem? (i := 2) rfl)) | exact (Or.inl (List.mem_of_getElem? (i := 1) rfl)) | exact (Or.inl (List.mem_of_getElem? (i := 0) rfl)))
        have sz_x9 : h0.size ≤ x9 := Nat.le_trans (Keep.refl h0 [tm, er, el]).1 gx9
        show Wp _ _ _ _ (T.setTop (mkF _ _ _ []))
        refine w_aloadN X k2729_26_197 rfl (rfl) ?_
        have f79 := (J1.1.keep Kc9)
        have f80 := (J1.2.keep Kc9 (ni3 ⟨(Exa.ne f79 N_el_9.2.1 (by decide)), (Exa.ne f79 N_er_9.2.1 (by decide)), (Exa.ne f79 M_9.2.1 (by decide))⟩))
        have f81 := (J2.1.keep Kc9)
        have f82 := (J2.2.keep Kc9 (ni3 ⟨(Exa.ne f81 N_el_9.2.1 (by decide)), (Exa.ne f81 N_er_9.2.1 (by decide)), (Exa.ne f81 M_9.2.1 (by decide))⟩))
        have f83 := (Jk.1.keep Kc9)
        have f84 := (Jk.2.keep Kc9 (ni3 ⟨(Exa.ne f83 N_el_9.2.1 (by decide)), (Exa.ne f83 N_er_9.2.1 (by decide)), (Exa.ne f83 M_9.2.1 (by decide))⟩))
        have f85 := (Jv.1.keep Kc9)
        have f86 := (Jv.2.keep Kc9 (ni3 ⟨(Exa.ne f85 N_el_9.2.1 (by decide)), (Exa.ne f85 N_er_9.2.1 (by decide)), (Exa.ne f85 M_9.2.1 (by decide))⟩))
        have f87 := (J3.1.keep Kc9)
        have f88 := (J3.2.keep Kc9 (ni3 ⟨(Exa.ne f87 N_el_9.2.1 (by decide)), (Exa.ne f87 N_er_9.2.1 (by decide)), (Exa.ne f87 M_9.2.1 (by decide))⟩))
        have f89 := (J4.1.keep Kc9)
        have f90 := (J4.2.keep Kc9 (ni3 ⟨(Exa.ne f89 N_el_9.2.1 (by decide)), (Exa.ne f89 N_er_9.2.1 (by decide)), (Exa.ne f89 M_9.2.1 (by decide))⟩))
        exact w_retR X rfl (rfl) rfl k2729_26_198 ⟨_, rfl, ⟨_, _, _, ⟨M_9.1, M_9.2.1, M_9.2.2.1, M_9.2.2.2.1, M_9.2.2.2.2.1, M_9.2.2.2.2.2.1, M_9.2.2.2.2.2.2⟩, (by rw [own_ic (own_cl_gt hc137_1 hc152), own_ia (own_cl_lt hc137)]; exact ⟨x9, el, er, _, _, _, _, _, _, rfl, (Ne.symm nrl), ⟨N_ex_9.1, N_ex_9.2.1, N_ex_9.2.2.1, N_ex_9.2.2.2.1, N_ex_9.2.2.2.2.1, N_ex_9.2.2.2.2.2.1, N_ex_9.2.2.2.2.2.2.1, N_ex_9.2.2.2.2.2.2.2⟩, ⟨N_el_9.1, N_el_9.2.1, N_el_9.2.2.1, N_el_9.2.2.2.1, N_el_9.2.2.2.2.1, N_el_9.2.2.2.2.2.1, N_el_9.2.2.2.2.2.2.1, N_el_9.2.2.2.2.2.2.2⟩, ⟨N_er_9.1, N_er_9.2.1, N_er_9.2.2.1, N_er_9.2.2.2.1, N_er_9.2.2.2.2.1, N_er_9.2.2.2.2.2.1, N_er_9.2.2.2.2.2.2.1, N_er_9.2.2.2.2.2.2.2⟩, ⟨f79, f80⟩, ⟨f81, f82⟩, ⟨f83, f84⟩, ⟨f85, f86⟩, ⟨f87, f88⟩, ⟨f89, f90⟩⟩)⟩, _, K78, (own_clM M0.2.1 (own_clE N1.2.1 (own_clE N2.2.1 own_cl0)))⟩ (by decide) (by decide)
    · refine w_aload X k2729_26_140 rfl (rfl) ?_
      refine w_getF X k2729_26_142 (host := "") (Or.inl (wd_219 hw)) Via.refl N2.2.2.2.2.1 (fun T X => ?_)
      refine w_astore X #[.val (.ref tm), .val (.ref ka), .val (.ref va), .val (.ref lam), .val .null, .val (.int (own_cmp k k1)), .val (.ref el), .val .null, .val (.ref ka)] k2729_26_145 (rfl) rfl ?_
      refine w_goto X k2729_26_147 ?_
      refine w_aload X k2729_26_174 rfl (rfl) ?_
      refine w_ifnonnullF X k2729_26_176 ?_
      refine w_aloadN X k2729_26_179 rfl (rfl) ?_
      refine w_aloadN X k2729_26_180 rfl (rfl) ?_
      refine w_aloadN X k2729_26_181 rfl (rfl) ?_
      refine w_aload X k2729_26_182 rfl (rfl) ?_
      refine w_iload X k2729_26_184 rfl ?_
      refine w_ifge X k2729_26_186 (fun hc => absurd hc137_1 hc) (fun _ => ?_)
      refine w_iconst X (1 : Int32) k2729_26_189 rfl ?_
      refine w_goto X k2729_26_190 ?_
      have nq91 : own_N Z n0 h0 el (.ref kl1) (.ref vl1) .null .null (.ref er) (0 : Int32) := ⟨N2.1, N2.2.1, N2.2.2.1, N2.2.2.2.1, N2.2.2.2.2.1, N2.2.2.2.2.2.1, N2.2.2.2.2.2.2.1, N2.2.2.2.2.2.2.2⟩
      have nq92 : own_N Z n0 h0 er (.ref kl2) (.ref vl2) (.ref el) .null .null (1 : Int32) := ⟨N1.1, N1.2.1, N1.2.2.1, N1.2.2.2.1, N1.2.2.2.2.1, N1.2.2.2.2.2.1, N1.2.2.2.2.2.2.1, N1.2.2.2.2.2.2.2⟩
      have mq93 : own_M Z n0 h0 tm (.ref er) ev sz mc := ⟨M0.1, M0.2.1, M0.2.2.1, M0.2.2.2.1, M0.2.2.2.2.1, M0.2.2.2.2.2.1, M0.2.2.2.2.2.2⟩
      refine w_callP X k2729_26_194 (wd_152 hw) (wd_153 hw) (wd_155 hw) (wd_154 hw) (wd_25 hw) (wd_156 hw) (by decide) M0.2.1 (argsL := [(.ref ka), (.ref va), (.ref el), (.int (1 : Int32))]) (S := []) (m_aell hw nq91 nq92 mq93 (Ne.symm nrl)) pd_14 rfl rfl rfl (by decide) (leR rfl) (by decide) (by decide) (fun T h10 v10 L10 X q10 => ?_)
      obtain ⟨rfl, x10, gx10, N_ex_10, N_el_10, N_er_10, M_10, Kc10⟩ := q10
      have K94 : Keep h0 h10 [tm, er, el] := (Keep.refl h0 [tm, er, el]).trans Kc10 (fun x hx => by simp only [List.mem_cons, List.not_mem_nil, or_false] at hx; rcases hx with rfl | rfl | rfl <;> first | exact (Or.inl (List.mem_of_getElem? (i := 2) rfl)) | exact (Or.inl (List.mem_of_getElem? (i := 1) rfl)) | exact (Or.inl (List.mem_of_getElem? (i := 0) rfl)))
      have sz_x10 : h0.size ≤ x10 := Nat.le_trans (Keep.refl h0 [tm, er, el]).1 gx10
      show Wp _ _ _ _ (T.setTop (mkF _ _ _ []))
      refine w_aloadN X k2729_26_197 rfl (rfl) ?_
      have f95 := (Jk.1.keep Kc10)
      have f96 := (Jk.2.keep Kc10 (ni3 ⟨(Exa.ne f95 N_el_10.2.1 (by decide)), (Exa.ne f95 N_er_10.2.1 (by decide)), (Exa.ne f95 M_10.2.1 (by decide))⟩))
      have f97 := (Jv.1.keep Kc10)
      have f98 := (Jv.2.keep Kc10 (ni3 ⟨(Exa.ne f97 N_el_10.2.1 (by decide)), (Exa.ne f97 N_er_10.2.1 (by decide)), (Exa.ne f97 M_10.2.1 (by decide))⟩))
      have f99 := (J1.1.keep Kc10)
      have f100 := (J1.2.keep Kc10 (ni3 ⟨(Exa.ne f99 N_el_10.2.1 (by decide)), (Exa.ne f99 N_er_10.2.1 (by decide)), (Exa.ne f99 M_10.2.1 (by decide))⟩))
      have f101 := (J2.1.keep Kc10)
      have f102 := (J2.2.keep Kc10 (ni3 ⟨(Exa.ne f101 N_el_10.2.1 (by decide)), (Exa.ne f101 N_er_10.2.1 (by decide)), (Exa.ne f101 M_10.2.1 (by decide))⟩))
      have f103 := (J3.1.keep Kc10)
      have f104 := (J3.2.keep Kc10 (ni3 ⟨(Exa.ne f103 N_el_10.2.1 (by decide)), (Exa.ne f103 N_er_10.2.1 (by decide)), (Exa.ne f103 M_10.2.1 (by decide))⟩))
      have f105 := (J4.1.keep Kc10)
      have f106 := (J4.2.keep Kc10 (ni3 ⟨(Exa.ne f105 N_el_10.2.1 (by decide)), (Exa.ne f105 N_er_10.2.1 (by decide)), (Exa.ne f105 M_10.2.1 (by decide))⟩))
      exact w_retR X rfl (rfl) rfl k2729_26_198 ⟨_, rfl, ⟨_, _, _, ⟨M_10.1, M_10.2.1, M_10.2.2.1, M_10.2.2.2.1, M_10.2.2.2.2.1, M_10.2.2.2.2.2.1, M_10.2.2.2.2.2.2⟩, (by rw [own_ia (own_cl_lt hc137_1)]; exact ⟨el, x10, er, _, _, _, _, _, _, rfl, (Ne.symm (Nat.ne_of_lt (Nat.lt_of_lt_of_le N1.2.1.lt gx10))), ⟨N_el_10.1, N_el_10.2.1, N_el_10.2.2.1, N_el_10.2.2.2.1, N_el_10.2.2.2.2.1, N_el_10.2.2.2.2.2.1, N_el_10.2.2.2.2.2.2.1, N_el_10.2.2.2.2.2.2.2⟩, ⟨N_ex_10.1, N_ex_10.2.1, N_ex_10.2.2.1, N_ex_10.2.2.2.1, N_ex_10.2.2.2.2.1, N_ex_10.2.2.2.2.2.1, N_ex_10.2.2.2.2.2.2.1, N_ex_10.2.2.2.2.2.2.2⟩, ⟨N_er_10.1, N_er_10.2.1, N_er_10.2.2.1, N_er_10.2.2.2.1, N_er_10.2.2.2.2.1, N_er_10.2.2.2.2.2.1, N_er_10.2.2.2.2.2.2.1, N_er_10.2.2.2.2.2.2.2⟩, ⟨f95, f96⟩, ⟨f97, f98⟩, ⟨f99, f100⟩, ⟨f101, f102⟩, ⟨f103, f104⟩, ⟨f105, f106⟩⟩)⟩, _, K94, (own_clM M0.2.1 (own_clE N1.2.1 (own_clE N2.2.1 own_cl0)))⟩ (by decide) (by decide)
theorem m_mg2r (hw : own_hw a0 Z) {h0 : Heap} {tm ka va : Addr} {k : Int64} {ev : Value} {sz mc : Int32} {cF : ClassId} {lam : Addr} {ca : Addr} {cc : Cell} {er el kl1 vl1 kl2 vl2 : Addr} {k1 c1 k2 c2 : Int64} (M0 : own_M Z n0 h0 tm (.ref er) ev sz mc) (N1 : own_N Z n0 h0 er (.ref kl1) (.ref vl1) .null (.ref el) .null (1 : Int32)) (N2 : own_N Z n0 h0 el (.ref kl2) (.ref vl2) .null .null (.ref er) (0 : Int32)) (J1 : own_J Z h0 kl1 k1) (J2 : own_J Z h0 vl1 c1) (J3 : own_J Z h0 kl2 k2) (J4 : own_J Z h0 vl2 c2) (h12 : k1 < k2) (nrl : er ≠ el) (Jk : own_J Z h0 ka k) (Jv : own_J Z h0 va 1) (hL : own_L Z cF lam) (hC : own_C Z ca cc) :
    Does l Z n0 ⟨"java/util/TreeMap", "merge", "(Ljava/lang/Object;Ljava/lang/Object;Ljava/util/function/BiFunction;)Ljava/lang/Object;"⟩ jdk_2729_method_26_code 9 (some (.object "java/lang/Object")) [] { frames := 6, cells := 1, slots := 6, locals := 86 } #[(.ref tm), (.ref ka), (.ref va), (.ref lam)] h0 (fun v h => ∃ rr, v = some (.ref rr) ∧ own_Tr Z n0 h tm ev (own_ins k [(k1, c1), (k2, c2)]) ∧ ∃ ws, Keep h0 h ws ∧ own_cl Z h0 ws) := by
  refine Does.start (plainFor_of_name pn_2) ?_
  intro p e s m below meth c T X
  replace X : Sd _ _ _ _ _ "java/util/TreeMap" "merge" _ _ _ _ _ _ _ _ _ _ _ _ _ _ _ _ := X
  refine Wp.cast (g' := mkF m 0 #[.val (.ref tm), .val (.ref ka), .val (.ref va), .val (.ref lam), .unset, .unset, .unset, .unset, .unset] []) (by first | (simp [entryFrame, mkF, argsToLocals, Value.category, maxLocals]; done) | rfl) ?_
  refine w_aloadN X k2729_26_0 rfl (rfl) ?_
  refine w_callS X k2729_26_1 (wd_67 hw) (wd_68 hw) (wd_69 hw) (wd_70 hw) (by decide) (argsL := [(.ref lam)]) (S := []) (m_rnn hw) pd_11 rfl rfl rfl (by decide) (leR rfl) (by decide) (by decide) (fun T h1 v1 L1 X q1 => ?_)
  obtain ⟨rfl, rfl⟩ := q1
  show Wp _ _ _ _ (T.setTop (mkF _ _ _ [(.ref lam)]))
  refine w_pop X k2729_26_4 rfl ?_
  refine w_aloadN X k2729_26_5 rfl (rfl) ?_
  refine w_callS X k2729_26_6 (wd_67 hw) (wd_68 hw) (wd_69 hw) (wd_70 hw) (by decide) (argsL := [(.ref va)]) (S := []) (m_rnn hw) pd_11 rfl rfl rfl (by decide) (leR rfl) (by decide) (by decide) (fun T h2 v2 L2 X q2 => ?_)
  obtain ⟨rfl, rfl⟩ := q2
  show Wp _ _ _ _ (T.setTop (mkF _ _ _ [(.ref va)]))
  refine w_pop X k2729_26_9 rfl ?_
  refine w_aloadN X k2729_26_10 rfl (rfl) ?_
  refine w_getF X k2729_26_11 (host := "") (Or.inl (wd_71 hw)) Via.refl M0.2.2.1 (fun T X => ?_)
  refine w_astore X #[.val (.ref tm), .val (.ref ka), .val (.ref va), .val (.ref lam), .val (.ref er), .unset, .unset, .unset, .unset] k2729_26_14 (rfl) rfl ?_
  refine w_aload X k2729_26_16 rfl (rfl) ?_
  refine w_ifnonnullT X k2729_26_18 ?_
  refine w_aloadN X k2729_26_29 rfl (rfl) ?_
  refine w_getF X k2729_26_30 (host := "") (Or.inl (wd_40 hw)) Via.refl M0.2.2.2.2.2.1 (fun T X => ?_)
  refine w_astore X #[.val (.ref tm), .val (.ref ka), .val (.ref va), .val (.ref lam), .val (.ref er), .unset, .unset, .val .null, .unset] k2729_26_33 (rfl) rfl ?_
  refine w_aload X k2729_26_35 rfl (rfl) ?_
  refine w_ifnullT X k2729_26_37 ?_
  refine w_aloadN X k2729_26_106 rfl (rfl) ?_
  refine w_callS X k2729_26_107 (wd_67 hw) (wd_68 hw) (wd_69 hw) (wd_70 hw) (by decide) (argsL := [(.ref ka)]) (S := []) (m_rnn hw) pd_11 rfl rfl rfl (by decide) (leR rfl) (by decide) (by decide) (fun T h3 v3 L3 X q3 => ?_)
  obtain ⟨rfl, rfl⟩ := q3
  show Wp _ _ _ _ (T.setTop (mkF _ _ _ [(.ref ka)]))
  refine w_pop X k2729_26_110 rfl ?_
  refine w_aloadN X k2729_26_111 rfl (rfl) ?_
  refine w_cast X k2729_26_112 (wd_83 hw) (Ins.of_exa Jk.1 (wd_84 hw)) (fun T X => ?_)
  refine w_astore X #[.val (.ref tm), .val (.ref ka), .val (.ref va), .val (.ref lam), .val (.ref er), .unset, .unset, .val .null, .val (.ref ka)] k2729_26_115 (rfl) rfl ?_
  refine w_aload X k2729_26_117 rfl (rfl) ?_
  refine w_astore X #[.val (.ref tm), .val (.ref ka), .val (.ref va), .val (.ref lam), .val (.ref er), .unset, .val (.ref er), .val .null, .val (.ref ka)] k2729_26_119 (rfl) rfl ?_
  refine w_aload X k2729_26_121 rfl (rfl) ?_
  refine w_aload X k2729_26_123 rfl (rfl) ?_
  refine w_getF X k2729_26_125 (host := "") (Or.inl (wd_127 hw)) Via.refl N1.2.2.1 (fun T X => ?_)
  have jq1 : own_J Z h0 ka k := ⟨Jk.1, Jk.2⟩
  have jq2 : own_J Z h0 kl1 k1 := ⟨J1.1, J1.2⟩
  refine w_callN X k2729_26_128 (wd_85 hw) (wd_86 hw) (wd_87 hw) (wd_88 hw) (wd_89 hw) (wd_90 hw) (wd_91 hw) (wd_84 hw) (wd_53 hw) (wd_92 hw) (by decide) Jk.1 (argsL := [(.ref kl1)]) (S := []) (m_ct2 hw jq1 jq2) pd_2 rfl rfl rfl (by decide) (leR rfl) (by decide) (by decide) (fun T h4 v4 L4 X q4 => ?_)
  obtain ⟨rfl, rfl⟩ := q4
  show Wp _ _ _ _ (T.setTop (mkF _ _ _ [(.int (own_cmp k k1))]))
  refine w_istore X #[.val (.ref tm), .val (.ref ka), .val (.ref va), .val (.ref lam), .val (.ref er), .val (.int (own_cmp k k1)), .val (.ref er), .val .null, .val (.ref ka)] k2729_26_133 rfl ?_
  refine w_iload X k2729_26_135 rfl ?_
  refine w_ifge X k2729_26_137 (fun (hc137 : ¬ (own_cmp k k1) < (0 : Int32)) => ?_) (fun (hc137 : (own_cmp k k1) < (0 : Int32)) => ?_)
  · refine w_iload X k2729_26_150 rfl ?_
    refine w_ifle X k2729_26_152 (fun (hc152 : ¬ (0 : Int32) < (own_cmp k k1)) => ?_) (fun (hc152 : (0 : Int32) < (own_cmp k k1)) => ?_)
    · refine w_aloadN X k2729_26_165 rfl (rfl) ?_
      refine w_aload X k2729_26_166 rfl (rfl) ?_
      refine w_aloadN X k2729_26_168 rfl (rfl) ?_
      refine w_aloadN X k2729_26_169 rfl (rfl) ?_
      have nq3 : own_N Z n0 h0 er (.ref kl1) (.ref vl1) .null (.ref el) .null (1 : Int32) := ⟨N1.1, N1.2.1, N1.2.2.1, N1.2.2.2.1, N1.2.2.2.2.1, N1.2.2.2.2.2.1, N1.2.2.2.2.2.2.1, N1.2.2.2.2.2.2.2⟩
      have mq4 : own_M Z n0 h0 tm (.ref er) ev sz mc := ⟨M0.1, M0.2.1, M0.2.2.1, M0.2.2.2.1, M0.2.2.2.2.1, M0.2.2.2.2.2.1, M0.2.2.2.2.2.2⟩
      have jq5 : own_J Z h0 vl1 c1 := ⟨J2.1, J2.2⟩
      have jq6 : own_J Z h0 va (1 : Int64) := ⟨Jv.1, Jv.2⟩
      refine w_callP X k2729_26_170 (wd_128 hw) (wd_129 hw) (wd_131 hw) (wd_130 hw) (wd_25 hw) (wd_132 hw) (by decide) M0.2.1 (argsL := [(.ref er), (.ref va), (.ref lam)]) (S := []) (m_mv hw nq3 mq4 jq5 jq6 hL hC) pd_13 rfl rfl rfl (by decide) (leR rfl) (by decide) (by decide) (fun T h5 v5 L5 X q5 => ?_)
      obtain ⟨bb5, rfl, N_5, Jb5, Kc5⟩ := q5
      have K7 : Keep h0 h5 [tm, er, el] := (Keep.refl h0 [tm, er, el]).trans Kc5 (fun x hx => by cases List.mem_singleton.mp hx; exact (Or.inl (List.mem_of_getElem? (i := 1) rfl)))
      show Wp _ _ _ _ (T.setTop (mkF _ _ _ [(.ref bb5)]))
      have f8 := (N2.2.1.keep Kc5)
      have f9 := (N2.2.2.1.keep Kc5 (ni1 (Ne.symm nrl)))
      have f10 := (N2.2.2.2.1.keep Kc5 (ni1 (Ne.symm nrl)))
      have f11 := (N2.2.2.2.2.1.keep Kc5 (ni1 (Ne.symm nrl)))
      have f12 := (N2.2.2.2.2.2.1.keep Kc5 (ni1 (Ne.symm nrl)))
      have f13 := (N2.2.2.2.2.2.2.1.keep Kc5 (ni1 (Ne.symm nrl)))
      have f14 := (N2.2.2.2.2.2.2.2.keep Kc5 (ni1 (Ne.symm nrl)))
      have f15 := (J1.1.keep Kc5)
      have f16 := (J1.2.keep Kc5 (ni1 (Exa.ne f15 N_5.2.1 (by decide))))
      have f17 := (J3.1.keep Kc5)
      have f18 := (J3.2.keep Kc5 (ni1 (Exa.ne f17 N_5.2.1 (by decide))))
      have f19 := (J4.1.keep Kc5)
      have f20 := (J4.2.keep Kc5 (ni1 (Exa.ne f19 N_5.2.1 (by decide))))
      have f21 := (M0.2.1.keep Kc5)
      have f22 := (M0.2.2.1.keep Kc5 (ni1 (Exa.ne f21 N_5.2.1 (by decide))))
      have f23 := (M0.2.2.2.1.keep Kc5 (ni1 (Exa.ne f21 N_5.2.1 (by decide))))
      have f24 := (M0.2.2.2.2.1.keep Kc5 (ni1 (Exa.ne f21 N_5.2.1 (by decide))))
      have f25 := (M0.2.2.2.2.2.1.keep Kc5 (ni1 (Exa.ne f21 N_5.2.1 (by decide))))
      have f26 := (M0.2.2.2.2.2.2.keep Kc5 (ni1 (Exa.ne f21 N_5.2.1 (by decide))))
      exact w_retR X rfl (rfl) rfl k2729_26_173 ⟨_, rfl, ⟨_, _, _, ⟨M0.1, f21, f22, f23, f24, f25, f26⟩, (by rw [own_ib (own_cl_eq hc137 hc152)]; exact ⟨h12, Or.inr ⟨er, el, _, _, _, _, rfl, nrl, ⟨N_5.1, N_5.2.1, N_5.2.2.1, N_5.2.2.2.1, N_5.2.2.2.2.1, N_5.2.2.2.2.2.1, N_5.2.2.2.2.2.2.1, N_5.2.2.2.2.2.2.2⟩, ⟨N2.1, f8, f9, f10, f11, f12, f13, f14⟩, ⟨f15, f16⟩, ⟨Jb5.1, Jb5.2⟩, ⟨f17, f18⟩, ⟨f19, f20⟩⟩⟩)⟩, _, K7, (own_clM M0.2.1 (own_clE N1.2.1 (own_clE N2.2.1 own_cl0)))⟩ (by decide) (by decide)
    · refine w_aload X k2729_26_155 rfl (rfl) ?_
      refine w_getF X k2729_26_157 (host := "") (Or.inl (wd_150 hw)) Via.refl N1.2.2.2.2.2.1 (fun T X => ?_)
      refine w_astore X #[.val (.ref tm), .val (.ref ka), .val (.ref va), .val (.ref lam), .val (.ref el), .val (.int (own_cmp k k1)), .val (.ref er), .val .null, .val (.ref ka)] k2729_26_160 (rfl) rfl ?_
      refine w_goto X k2729_26_162 ?_
      refine w_aload X k2729_26_174 rfl (rfl) ?_
      refine w_ifnonnullT X k2729_26_176 ?_
      refine w_aload X k2729_26_117 rfl (rfl) ?_
      refine w_astore X #[.val (.ref tm), .val (.ref ka), .val (.ref va), .val (.ref lam), .val (.ref el), .val (.int (own_cmp k k1)), .val (.ref el), .val .null, .val (.ref ka)] k2729_26_119 (rfl) rfl ?_
      refine w_aload X k2729_26_121 rfl (rfl) ?_
      refine w_aload X k2729_26_123 rfl (rfl) ?_
      refine w_getF X k2729_26_125 (host := "") (Or.inl (wd_127 hw)) Via.refl N2.2.2.1 (fun T X => ?_)
      have jq27 : own_J Z h0 ka k := ⟨Jk.1, Jk.2⟩
      have jq28 : own_J Z h0 kl2 k2 := ⟨J3.1, J3.2⟩
      refine w_callN X k2729_26_128 (wd_85 hw) (wd_86 hw) (wd_87 hw) (wd_88 hw) (wd_89 hw) (wd_90 hw) (wd_91 hw) (wd_84 hw) (wd_53 hw) (wd_92 hw) (by decide) Jk.1 (argsL := [(.ref kl2)]) (S := []) (m_ct2 hw jq27 jq28) pd_2 rfl rfl rfl (by decide) (leR rfl) (by decide) (by decide) (fun T h6 v6 L6 X q6 => ?_)
      obtain ⟨rfl, rfl⟩ := q6
      show Wp _ _ _ _ (T.setTop (mkF _ _ _ [(.int (own_cmp k k2))]))
      refine w_istore X #[.val (.ref tm), .val (.ref ka), .val (.ref va), .val (.ref lam), .val (.ref el), .val (.int (own_cmp k k2)), .val (.ref el), .val .null, .val (.ref ka)] k2729_26_133 rfl ?_
      refine w_iload X k2729_26_135 rfl ?_
      refine w_ifge X k2729_26_137 (fun (hc137_1 : ¬ (own_cmp k k2) < (0 : Int32)) => ?_) (fun (hc137_1 : (own_cmp k k2) < (0 : Int32)) => ?_)
      · refine w_iload X k2729_26_150 rfl ?_
        refine w_ifle X k2729_26_152 (fun (hc152_1 : ¬ (0 : Int32) < (own_cmp k k2)) => ?_) (fun (hc152_1 : (0 : Int32) < (own_cmp k k2)) => ?_)
        · refine w_aloadN X k2729_26_165 rfl (rfl) ?_
          refine w_aload X k2729_26_166 rfl (rfl) ?_
          refine w_aloadN X k2729_26_168 rfl (rfl) ?_
          refine w_aloadN X k2729_26_169 rfl (rfl) ?_
          have nq29 : own_N Z n0 h0 el (.ref kl2) (.ref vl2) .null .null (.ref er) (0 : Int32) := ⟨N2.1, N2.2.1, N2.2.2.1, N2.2.2.2.1, N2.2.2.2.2.1, N2.2.2.2.2.2.1, N2.2.2.2.2.2.2.1, N2.2.2.2.2.2.2.2⟩
          have mq30 : own_M Z n0 h0 tm (.ref er) ev sz mc := ⟨M0.1, M0.2.1, M0.2.2.1, M0.2.2.2.1, M0.2.2.2.2.1, M0.2.2.2.2.2.1, M0.2.2.2.2.2.2⟩
          have jq31 : own_J Z h0 vl2 c2 := ⟨J4.1, J4.2⟩
          have jq32 : own_J Z h0 va (1 : Int64) := ⟨Jv.1, Jv.2⟩
          refine w_callP X k2729_26_170 (wd_128 hw) (wd_129 hw) (wd_131 hw) (wd_130 hw) (wd_25 hw) (wd_132 hw) (by decide) M0.2.1 (argsL := [(.ref el), (.ref va), (.ref lam)]) (S := []) (m_mv hw nq29 mq30 jq31 jq32 hL hC) pd_13 rfl rfl rfl (by decide) (leR rfl) (by decide) (by decide) (fun T h7 v7 L7 X q7 => ?_)
          obtain ⟨bb7, rfl, N_7, Jb7, Kc7⟩ := q7
          have K33 : Keep h0 h7 [tm, er, el] := (Keep.refl h0 [tm, er, el]).trans Kc7 (fun x hx => by cases List.mem_singleton.mp hx; exact (Or.inl (List.mem_of_getElem? (i := 2) rfl)))
          show Wp _ _ _ _ (T.setTop (mkF _ _ _ [(.ref bb7)]))
          have f34 := (N1.2.1.keep Kc7)
          have f35 := (N1.2.2.1.keep Kc7 (ni1 nrl))
          have f36 := (N1.2.2.2.1.keep Kc7 (ni1 nrl))
          have f37 := (N1.2.2.2.2.1.keep Kc7 (ni1 nrl))
          have f38 := (N1.2.2.2.2.2.1.keep Kc7 (ni1 nrl))
          have f39 := (N1.2.2.2.2.2.2.1.keep Kc7 (ni1 nrl))
          have f40 := (N1.2.2.2.2.2.2.2.keep Kc7 (ni1 nrl))
          have f41 := (J1.1.keep Kc7)
          have f42 := (J1.2.keep Kc7 (ni1 (Exa.ne f41 N_7.2.1 (by decide))))
          have f43 := (J2.1.keep Kc7)
          have f44 := (J2.2.keep Kc7 (ni1 (Exa.ne f43 N_7.2.1 (by decide))))
          have f45 := (J3.1.keep Kc7)
          have f46 := (J3.2.keep Kc7 (ni1 (Exa.ne f45 N_7.2.1 (by decide))))
          have f47 := (M0.2.1.keep Kc7)
          have f48 := (M0.2.2.1.keep Kc7 (ni1 (Exa.ne f47 N_7.2.1 (by decide))))
          have f49 := (M0.2.2.2.1.keep Kc7 (ni1 (Exa.ne f47 N_7.2.1 (by decide))))
          have f50 := (M0.2.2.2.2.1.keep Kc7 (ni1 (Exa.ne f47 N_7.2.1 (by decide))))
          have f51 := (M0.2.2.2.2.2.1.keep Kc7 (ni1 (Exa.ne f47 N_7.2.1 (by decide))))
          have f52 := (M0.2.2.2.2.2.2.keep Kc7 (ni1 (Exa.ne f47 N_7.2.1 (by decide))))
          exact w_retR X rfl (rfl) rfl k2729_26_173 ⟨_, rfl, ⟨_, _, _, ⟨M0.1, f47, f48, f49, f50, f51, f52⟩, (by rw [own_ic (own_cl_gt hc137 hc152), own_ib (own_cl_eq hc137_1 hc152_1)]; exact ⟨h12, Or.inr ⟨er, el, _, _, _, _, rfl, nrl, ⟨N1.1, f34, f35, f36, f37, f38, f39, f40⟩, ⟨N_7.1, N_7.2.1, N_7.2.2.1, N_7.2.2.2.1, N_7.2.2.2.2.1, N_7.2.2.2.2.2.1, N_7.2.2.2.2.2.2.1, N_7.2.2.2.2.2.2.2⟩, ⟨f41, f42⟩, ⟨f43, f44⟩, ⟨f45, f46⟩, ⟨Jb7.1, Jb7.2⟩⟩⟩)⟩, _, K33, (own_clM M0.2.1 (own_clE N1.2.1 (own_clE N2.2.1 own_cl0)))⟩ (by decide) (by decide)
        · refine w_aload X k2729_26_155 rfl (rfl) ?_
          refine w_getF X k2729_26_157 (host := "") (Or.inl (wd_150 hw)) Via.refl N2.2.2.2.2.2.1 (fun T X => ?_)
          refine w_astore X #[.val (.ref tm), .val (.ref ka), .val (.ref va), .val (.ref lam), .val .null, .val (.int (own_cmp k k2)), .val (.ref el), .val .null, .val (.ref ka)] k2729_26_160 (rfl) rfl ?_
          refine w_goto X k2729_26_162 ?_
          refine w_aload X k2729_26_174 rfl (rfl) ?_
          refine w_ifnonnullF X k2729_26_176 ?_
          refine w_aloadN X k2729_26_179 rfl (rfl) ?_
          refine w_aloadN X k2729_26_180 rfl (rfl) ?_
          refine w_aloadN X k2729_26_181 rfl (rfl) ?_
          refine w_aload X k2729_26_182 rfl (rfl) ?_
          refine w_iload X k2729_26_184 rfl ?_
          refine w_ifge X k2729_26_186 (fun _ => ?_) (fun hc => absurd hc hc137_1)
          refine w_iconst X (0 : Int32) k2729_26_193 rfl ?_
          have nq53 : own_N Z n0 h0 el (.ref kl2) (.ref vl2) .null .null (.ref er) (0 : Int32) := ⟨N2.1, N2.2.1, N2.2.2.1, N2.2.2.2.1, N2.2.2.2.2.1, N2.2.2.2.2.2.1, N2.2.2.2.2.2.2.1, N2.2.2.2.2.2.2.2⟩
          have nq54 : own_N Z n0 h0 er (.ref kl1) (.ref vl1) .null (.ref el) .null (1 : Int32) := ⟨N1.1, N1.2.1, N1.2.2.1, N1.2.2.2.1, N1.2.2.2.2.1, N1.2.2.2.2.2.1, N1.2.2.2.2.2.2.1, N1.2.2.2.2.2.2.2⟩
          have mq55 : own_M Z n0 h0 tm (.ref er) ev sz mc := ⟨M0.1, M0.2.1, M0.2.2.1, M0.2.2.2.1, M0.2.2.2.2.1, M0.2.2.2.2.2.1, M0.2.2.2.2.2.2⟩
          refine w_callP X k2729_26_194 (wd_152 hw) (wd_153 hw) (wd_155 hw) (wd_154 hw) (wd_25 hw) (wd_156 hw) (by decide) M0.2.1 (argsL := [(.ref ka), (.ref va), (.ref el), (.int (0 : Int32))]) (S := []) (m_aerr hw nq53 nq54 mq55 (Ne.symm nrl)) pd_14 rfl rfl rfl (by decide) (leR rfl) (by decide) (by decide) (fun T h8 v8 L8 X q8 => ?_)
          obtain ⟨rfl, x8, gx8, N_ex_8, N_el_8, N_er_8, M_8, Kc8⟩ := q8
          have K56 : Keep h0 h8 [tm, er, el] := (Keep.refl h0 [tm, er, el]).trans Kc8 (fun x hx => by simp only [List.mem_cons, List.not_mem_nil, or_false] at hx; rcases hx with rfl | rfl | rfl <;> first | exact (Or.inl (List.mem_of_getElem? (i := 2) rfl)) | exact (Or.inl (List.mem_of_getElem? (i := 1) rfl)) | exact (Or.inl (List.mem_of_getElem? (i := 0) rfl)))
          have sz_x8 : h0.size ≤ x8 := Nat.le_trans (Keep.refl h0 [tm, er, el]).1 gx8
          show Wp _ _ _ _ (T.setTop (mkF _ _ _ []))
          refine w_aloadN X k2729_26_197 rfl (rfl) ?_
          have f57 := (J1.1.keep Kc8)
          have f58 := (J1.2.keep Kc8 (ni3 ⟨(Exa.ne f57 N_el_8.2.1 (by decide)), (Exa.ne f57 N_er_8.2.1 (by decide)), (Exa.ne f57 M_8.2.1 (by decide))⟩))
          have f59 := (J2.1.keep Kc8)
          have f60 := (J2.2.keep Kc8 (ni3 ⟨(Exa.ne f59 N_el_8.2.1 (by decide)), (Exa.ne f59 N_er_8.2.1 (by decide)), (Exa.ne f59 M_8.2.1 (by decide))⟩))
          have f61 := (J3.1.keep Kc8)
          have f62 := (J3.2.keep Kc8 (ni3 ⟨(Exa.ne f61 N_el_8.2.1 (by decide)), (Exa.ne f61 N_er_8.2.1 (by decide)), (Exa.ne f61 M_8.2.1 (by decide))⟩))
          have f63 := (J4.1.keep Kc8)
          have f64 := (J4.2.keep Kc8 (ni3 ⟨(Exa.ne f63 N_el_8.2.1 (by decide)), (Exa.ne f63 N_er_8.2.1 (by decide)), (Exa.ne f63 M_8.2.1 (by decide))⟩))
          have f65 := (Jk.1.keep Kc8)
          have f66 := (Jk.2.keep Kc8 (ni3 ⟨(Exa.ne f65 N_el_8.2.1 (by decide)), (Exa.ne f65 N_er_8.2.1 (by decide)), (Exa.ne f65 M_8.2.1 (by decide))⟩))
          have f67 := (Jv.1.keep Kc8)
          have f68 := (Jv.2.keep Kc8 (ni3 ⟨(Exa.ne f67 N_el_8.2.1 (by decide)), (Exa.ne f67 N_er_8.2.1 (by decide)), (Exa.ne f67 M_8.2.1 (by decide))⟩))
          exact w_retR X rfl (rfl) rfl k2729_26_198 ⟨_, rfl, ⟨_, _, _, ⟨M_8.1, M_8.2.1, M_8.2.2.1, M_8.2.2.2.1, M_8.2.2.2.2.1, M_8.2.2.2.2.2.1, M_8.2.2.2.2.2.2⟩, (by rw [own_ic (own_cl_gt hc137 hc152), own_ic (own_cl_gt hc137_1 hc152_1), own_i0]; exact ⟨el, er, x8, _, _, _, _, _, _, rfl, (Nat.ne_of_lt (Nat.lt_of_lt_of_le N1.2.1.lt gx8)), ⟨N_el_8.1, N_el_8.2.1, N_el_8.2.2.1, N_el_8.2.2.2.1, N_el_8.2.2.2.2.1, N_el_8.2.2.2.2.2.1, N_el_8.2.2.2.2.2.2.1, N_el_8.2.2.2.2.2.2.2⟩, ⟨N_er_8.1, N_er_8.2.1, N_er_8.2.2.1, N_er_8.2.2.2.1, N_er_8.2.2.2.2.1, N_er_8.2.2.2.2.2.1, N_er_8.2.2.2.2.2.2.1, N_er_8.2.2.2.2.2.2.2⟩, ⟨N_ex_8.1, N_ex_8.2.1, N_ex_8.2.2.1, N_ex_8.2.2.2.1, N_ex_8.2.2.2.2.1, N_ex_8.2.2.2.2.2.1, N_ex_8.2.2.2.2.2.2.1, N_ex_8.2.2.2.2.2.2.2⟩, ⟨f57, f58⟩, ⟨f59, f60⟩, ⟨f61, f62⟩, ⟨f63, f64⟩, ⟨f65, f66⟩, ⟨f67, f68⟩⟩)⟩, _, K56, (own_clM M0.2.1 (own_clE N1.2.1 (own_clE N2.2.1 own_cl0)))⟩ (by decide) (by decide)
      · refine w_aload X k2729_26_140 rfl (rfl) ?_
        refine w_getF X k2729_26_142 (host := "") (Or.inl (wd_219 hw)) Via.refl N2.2.2.2.2.1 (fun T X => ?_)
        refine w_astore X #[.val (.ref tm), .val (.ref ka), .val (.ref va), .val (.ref lam), .val .null, .val (.int (own_cmp k k2)), .val (.ref el), .val .null, .val (.ref ka)] k2729_26_145 (rfl) rfl ?_
        refine w_goto X k2729_26_147 ?_
        refine w_aload X k2729_26_174 rfl (rfl) ?_
        refine w_ifnonnullF X k2729_26_176 ?_
        refine w_aloadN X k2729_26_179 rfl (rfl) ?_
        refine w_aloadN X k2729_26_180 rfl (rfl) ?_
        refine w_aloadN X k2729_26_181 rfl (rfl) ?_
        refine w_aload X k2729_26_182 rfl (rfl) ?_
        refine w_iload X k2729_26_184 rfl ?_
        refine w_ifge X k2729_26_186 (fun hc => absurd hc137_1 hc) (fun _ => ?_)
        refine w_iconst X (1 : Int32) k2729_26_189 rfl ?_
        refine w_goto X k2729_26_190 ?_
        have nq69 : own_N Z n0 h0 el (.ref kl2) (.ref vl2) .null .null (.ref er) (0 : Int32) := ⟨N2.1, N2.2.1, N2.2.2.1, N2.2.2.2.1, N2.2.2.2.2.1, N2.2.2.2.2.2.1, N2.2.2.2.2.2.2.1, N2.2.2.2.2.2.2.2⟩
        have nq70 : own_N Z n0 h0 er (.ref kl1) (.ref vl1) .null (.ref el) .null (1 : Int32) := ⟨N1.1, N1.2.1, N1.2.2.1, N1.2.2.2.1, N1.2.2.2.2.1, N1.2.2.2.2.2.1, N1.2.2.2.2.2.2.1, N1.2.2.2.2.2.2.2⟩
        have mq71 : own_M Z n0 h0 tm (.ref er) ev sz mc := ⟨M0.1, M0.2.1, M0.2.2.1, M0.2.2.2.1, M0.2.2.2.2.1, M0.2.2.2.2.2.1, M0.2.2.2.2.2.2⟩
        refine w_callP X k2729_26_194 (wd_152 hw) (wd_153 hw) (wd_155 hw) (wd_154 hw) (wd_25 hw) (wd_156 hw) (by decide) M0.2.1 (argsL := [(.ref ka), (.ref va), (.ref el), (.int (1 : Int32))]) (S := []) (m_aerl hw nq69 nq70 mq71 (Ne.symm nrl)) pd_14 rfl rfl rfl (by decide) (leR rfl) (by decide) (by decide) (fun T h9 v9 L9 X q9 => ?_)
        obtain ⟨rfl, x9, gx9, N_ex_9, N_el_9, N_er_9, M_9, Kc9⟩ := q9
        have K72 : Keep h0 h9 [tm, er, el] := (Keep.refl h0 [tm, er, el]).trans Kc9 (fun x hx => by simp only [List.mem_cons, List.not_mem_nil, or_false] at hx; rcases hx with rfl | rfl | rfl <;> first | exact (Or.inl (List.mem_of_getElem? (i := 2) rfl)) | exact (Or.inl (List.mem_of_getElem? (i := 1) rfl)) | exact (Or.inl (List.mem_of_getElem? (i := 0) rfl)))
        have sz_x9 : h0.size ≤ x9 := Nat.le_trans (Keep.refl h0 [tm, er, el]).1 gx9
        show Wp _ _ _ _ (T.setTop (mkF _ _ _ []))
        refine w_aloadN X k2729_26_197 rfl (rfl) ?_
        have f73 := (J1.1.keep Kc9)
        have f74 := (J1.2.keep Kc9 (ni3 ⟨(Exa.ne f73 N_el_9.2.1 (by decide)), (Exa.ne f73 N_er_9.2.1 (by decide)), (Exa.ne f73 M_9.2.1 (by decide))⟩))
        have f75 := (J2.1.keep Kc9)
        have f76 := (J2.2.keep Kc9 (ni3 ⟨(Exa.ne f75 N_el_9.2.1 (by decide)), (Exa.ne f75 N_er_9.2.1 (by decide)), (Exa.ne f75 M_9.2.1 (by decide))⟩))
        have f77 := (Jk.1.keep Kc9)
        have f78 := (Jk.2.keep Kc9 (ni3 ⟨(Exa.ne f77 N_el_9.2.1 (by decide)), (Exa.ne f77 N_er_9.2.1 (by decide)), (Exa.ne f77 M_9.2.1 (by decide))⟩))
        have f79 := (Jv.1.keep Kc9)
        have f80 := (Jv.2.keep Kc9 (ni3 ⟨(Exa.ne f79 N_el_9.2.1 (by decide)), (Exa.ne f79 N_er_9.2.1 (by decide)), (Exa.ne f79 M_9.2.1 (by decide))⟩))
        have f81 := (J3.1.keep Kc9)
        have f82 := (J3.2.keep Kc9 (ni3 ⟨(Exa.ne f81 N_el_9.2.1 (by decide)), (Exa.ne f81 N_er_9.2.1 (by decide)), (Exa.ne f81 M_9.2.1 (by decide))⟩))
        have f83 := (J4.1.keep Kc9)
        have f84 := (J4.2.keep Kc9 (ni3 ⟨(Exa.ne f83 N_el_9.2.1 (by decide)), (Exa.ne f83 N_er_9.2.1 (by decide)), (Exa.ne f83 M_9.2.1 (by decide))⟩))
        exact w_retR X rfl (rfl) rfl k2729_26_198 ⟨_, rfl, ⟨_, _, _, ⟨M_9.1, M_9.2.1, M_9.2.2.1, M_9.2.2.2.1, M_9.2.2.2.2.1, M_9.2.2.2.2.2.1, M_9.2.2.2.2.2.2⟩, (by rw [own_ic (own_cl_gt hc137 hc152), own_ia (own_cl_lt hc137_1)]; exact ⟨x9, er, el, _, _, _, _, _, _, rfl, nrl, ⟨N_ex_9.1, N_ex_9.2.1, N_ex_9.2.2.1, N_ex_9.2.2.2.1, N_ex_9.2.2.2.2.1, N_ex_9.2.2.2.2.2.1, N_ex_9.2.2.2.2.2.2.1, N_ex_9.2.2.2.2.2.2.2⟩, ⟨N_er_9.1, N_er_9.2.1, N_er_9.2.2.1, N_er_9.2.2.2.1, N_er_9.2.2.2.2.1, N_er_9.2.2.2.2.2.1, N_er_9.2.2.2.2.2.2.1, N_er_9.2.2.2.2.2.2.2⟩, ⟨N_el_9.1, N_el_9.2.1, N_el_9.2.2.1, N_el_9.2.2.2.1, N_el_9.2.2.2.2.1, N_el_9.2.2.2.2.2.1, N_el_9.2.2.2.2.2.2.1, N_el_9.2.2.2.2.2.2.2⟩, ⟨f73, f74⟩, ⟨f75, f76⟩, ⟨f77, f78⟩, ⟨f79, f80⟩, ⟨f81, f82⟩, ⟨f83, f84⟩⟩)⟩, _, K72, (own_clM M0.2.1 (own_clE N1.2.1 (own_clE N2.2.1 own_cl0)))⟩ (by decide) (by decide)
  · refine w_aload X k2729_26_140 rfl (rfl) ?_
    refine w_getF X k2729_26_142 (host := "") (Or.inl (wd_219 hw)) Via.refl N1.2.2.2.2.1 (fun T X => ?_)
    refine w_astore X #[.val (.ref tm), .val (.ref ka), .val (.ref va), .val (.ref lam), .val .null, .val (.int (own_cmp k k1)), .val (.ref er), .val .null, .val (.ref ka)] k2729_26_145 (rfl) rfl ?_
    refine w_goto X k2729_26_147 ?_
    refine w_aload X k2729_26_174 rfl (rfl) ?_
    refine w_ifnonnullF X k2729_26_176 ?_
    refine w_aloadN X k2729_26_179 rfl (rfl) ?_
    refine w_aloadN X k2729_26_180 rfl (rfl) ?_
    refine w_aloadN X k2729_26_181 rfl (rfl) ?_
    refine w_aload X k2729_26_182 rfl (rfl) ?_
    refine w_iload X k2729_26_184 rfl ?_
    refine w_ifge X k2729_26_186 (fun hc => absurd hc137 hc) (fun _ => ?_)
    refine w_iconst X (1 : Int32) k2729_26_189 rfl ?_
    refine w_goto X k2729_26_190 ?_
    have nq85 : own_N Z n0 h0 er (.ref kl1) (.ref vl1) .null (.ref el) .null (1 : Int32) := ⟨N1.1, N1.2.1, N1.2.2.1, N1.2.2.2.1, N1.2.2.2.2.1, N1.2.2.2.2.2.1, N1.2.2.2.2.2.2.1, N1.2.2.2.2.2.2.2⟩
    have mq86 : own_M Z n0 h0 tm (.ref er) ev sz mc := ⟨M0.1, M0.2.1, M0.2.2.1, M0.2.2.2.1, M0.2.2.2.2.1, M0.2.2.2.2.2.1, M0.2.2.2.2.2.2⟩
    refine w_callP X k2729_26_194 (wd_152 hw) (wd_153 hw) (wd_155 hw) (wd_154 hw) (wd_25 hw) (wd_156 hw) (by decide) M0.2.1 (argsL := [(.ref ka), (.ref va), (.ref er), (.int (1 : Int32))]) (S := []) (m_aeal hw nq85 mq86) pd_14 rfl rfl rfl (by decide) (leR rfl) (by decide) (by decide) (fun T h10 v10 L10 X q10 => ?_)
    obtain ⟨rfl, x10, gx10, N_ex_10, N_er_10, M_10, Kc10⟩ := q10
    have K87 : Keep h0 h10 [tm, er, el] := (Keep.refl h0 [tm, er, el]).trans Kc10 (fun x hx => by simp only [List.mem_cons, List.not_mem_nil, or_false] at hx; rcases hx with rfl | rfl <;> first | exact (Or.inl (List.mem_of_getElem? (i := 1) rfl)) | exact (Or.inl (List.mem_of_getElem? (i := 0) rfl)))
    have sz_x10 : h0.size ≤ x10 := Nat.le_trans (Keep.refl h0 [tm, er, el]).1 gx10
    show Wp _ _ _ _ (T.setTop (mkF _ _ _ []))
    refine w_aloadN X k2729_26_197 rfl (rfl) ?_
    have f88 := (N2.2.1.keep Kc10)
    have f89 := (N2.2.2.1.keep Kc10 (ni2 ⟨(Ne.symm nrl), (Exa.ne f88 M_10.2.1 (by decide))⟩))
    have f90 := (N2.2.2.2.1.keep Kc10 (ni2 ⟨(Ne.symm nrl), (Exa.ne f88 M_10.2.1 (by decide))⟩))
    have f91 := (N2.2.2.2.2.1.keep Kc10 (ni2 ⟨(Ne.symm nrl), (Exa.ne f88 M_10.2.1 (by decide))⟩))
    have f92 := (N2.2.2.2.2.2.1.keep Kc10 (ni2 ⟨(Ne.symm nrl), (Exa.ne f88 M_10.2.1 (by decide))⟩))
    have f93 := (N2.2.2.2.2.2.2.1.keep Kc10 (ni2 ⟨(Ne.symm nrl), (Exa.ne f88 M_10.2.1 (by decide))⟩))
    have f94 := (N2.2.2.2.2.2.2.2.keep Kc10 (ni2 ⟨(Ne.symm nrl), (Exa.ne f88 M_10.2.1 (by decide))⟩))
    have f95 := (Jk.1.keep Kc10)
    have f96 := (Jk.2.keep Kc10 (ni2 ⟨(Exa.ne f95 N_er_10.2.1 (by decide)), (Exa.ne f95 M_10.2.1 (by decide))⟩))
    have f97 := (Jv.1.keep Kc10)
    have f98 := (Jv.2.keep Kc10 (ni2 ⟨(Exa.ne f97 N_er_10.2.1 (by decide)), (Exa.ne f97 M_10.2.1 (by decide))⟩))
    have f99 := (J1.1.keep Kc10)
    have f100 := (J1.2.keep Kc10 (ni2 ⟨(Exa.ne f99 N_er_10.2.1 (by decide)), (Exa.ne f99 M_10.2.1 (by decide))⟩))
    have f101 := (J2.1.keep Kc10)
    have f102 := (J2.2.keep Kc10 (ni2 ⟨(Exa.ne f101 N_er_10.2.1 (by decide)), (Exa.ne f101 M_10.2.1 (by decide))⟩))
    have f103 := (J3.1.keep Kc10)
    have f104 := (J3.2.keep Kc10 (ni2 ⟨(Exa.ne f103 N_er_10.2.1 (by decide)), (Exa.ne f103 M_10.2.1 (by decide))⟩))
    have f105 := (J4.1.keep Kc10)
    have f106 := (J4.2.keep Kc10 (ni2 ⟨(Exa.ne f105 N_er_10.2.1 (by decide)), (Exa.ne f105 M_10.2.1 (by decide))⟩))
    exact w_retR X rfl (rfl) rfl k2729_26_198 ⟨_, rfl, ⟨_, _, _, ⟨M_10.1, M_10.2.1, M_10.2.2.1, M_10.2.2.2.1, M_10.2.2.2.2.1, M_10.2.2.2.2.2.1, M_10.2.2.2.2.2.2⟩, (by rw [own_ia (own_cl_lt hc137)]; exact ⟨er, x10, el, _, _, _, _, _, _, rfl, (Ne.symm (Nat.ne_of_lt (Nat.lt_of_lt_of_le N2.2.1.lt gx10))), ⟨N_er_10.1, N_er_10.2.1, N_er_10.2.2.1, N_er_10.2.2.2.1, N_er_10.2.2.2.2.1, N_er_10.2.2.2.2.2.1, N_er_10.2.2.2.2.2.2.1, N_er_10.2.2.2.2.2.2.2⟩, ⟨N_ex_10.1, N_ex_10.2.1, N_ex_10.2.2.1, N_ex_10.2.2.2.1, N_ex_10.2.2.2.2.1, N_ex_10.2.2.2.2.2.1, N_ex_10.2.2.2.2.2.2.1, N_ex_10.2.2.2.2.2.2.2⟩, ⟨N2.1, f88, f89, f90, f91, f92, f93, f94⟩, ⟨f95, f96⟩, ⟨f97, f98⟩, ⟨f99, f100⟩, ⟨f101, f102⟩, ⟨f103, f104⟩, ⟨f105, f106⟩⟩)⟩, _, K87, (own_clM M0.2.1 (own_clE N1.2.1 (own_clE N2.2.1 own_cl0)))⟩ (by decide) (by decide)
theorem m_mg (hw : own_hw a0 Z) {h0 : Heap} {tm ka va : Addr} {k : Int64} {ev : Value} {kcs : List (Int64 × Int64)} {cF : ClassId} {lam : Addr} {ca : Addr} {cc : Cell} (T0 : own_Tr Z n0 h0 tm ev kcs) (hlen : kcs.length ≤ 2) (Jk : own_J Z h0 ka k) (Jv : own_J Z h0 va 1) (hL : own_L Z cF lam) (hC : own_C Z ca cc) :
    Does l Z n0 ⟨"java/util/TreeMap", "merge", "(Ljava/lang/Object;Ljava/lang/Object;Ljava/util/function/BiFunction;)Ljava/lang/Object;"⟩ jdk_2729_method_26_code 9 (some (.object "java/lang/Object")) [] { frames := 6, cells := 1, slots := 6, locals := 86 } #[(.ref tm), (.ref ka), (.ref va), (.ref lam)] h0 (fun v h => ∃ rr, v = some (.ref rr) ∧ own_Tr Z n0 h tm ev (own_ins k kcs) ∧ ∃ ws, Keep h0 h ws ∧ own_cl Z h0 ws) := by
  obtain ⟨root, sz, mc, M0, S0⟩ := T0
  match kcs, S0, hlen with
  | [], S0, _ => exact m_mg0 hw ((show root = Value.null from S0) ▸ M0) Jk Jv hL hC
  | [(k1, c1)], ⟨er, kl1, vl1, e1, N1, J1, J2⟩, _ => exact m_mg1 hw (e1 ▸ M0) N1 J1 J2 Jk Jv hL hC
  | [(k1, c1), (k2, c2)], ⟨h12, Or.inl ⟨er, el, kl1, vl1, kl2, vl2, e1, nrl, N1, N2, J1, J2, J3, J4⟩⟩, _ => exact m_mg2l hw (e1 ▸ M0) N1 N2 J1 J2 J3 J4 h12 nrl Jk Jv hL hC
  | [(k1, c1), (k2, c2)], ⟨h12, Or.inr ⟨er, el, kl1, vl1, kl2, vl2, e1, nrl, N1, N2, J1, J2, J3, J4⟩⟩, _ => exact m_mg2r hw (e1 ▸ M0) N1 N2 J1 J2 J3 J4 h12 nrl Jk Jv hL hC
  | _ :: _ :: _ :: _, _, hlen => exact absurd hlen (by simp only [List.length_cons]; omega)
theorem m_add (hw : own_hw a0 Z) {h0 : Heap} {rt : Addr} {x n n' : Int64} {kcs : List (Int64 × Int64)} {cF : ClassId} {lam : Addr} {ca : Addr} {cc : Cell} (R0 : own_RT Z n0 h0 rt n .null kcs) (hlen : kcs.length ≤ 2) (hn' : n + 1 = n') (hL : own_L Z cF lam) (hC : own_C Z ca cc) :
    Does l Z n0 ⟨"com/example/bounded_lock/boundedlock/cli/RoundTimes", "add", "(J)V"⟩ prog_2_method_2_code 3 none [] { frames := 7, cells := 3, slots := 8, locals := 3075 } #[(.ref rt), (.long x)] h0 (fun v h => v = none ∧ own_RT Z n0 h rt n' .null (own_ins ((x + 500) / 1000) kcs)) := by
  refine Does.startN (plainFor_of_name pn_7) ?_
  subst hn'
  obtain ⟨tm, grt, Ert, Fc, Fr, T0, -⟩ := R0
  intro p e s m below meth c T hnm X
  replace X : Sd _ _ _ _ _ "com/example/bounded_lock/boundedlock/cli/RoundTimes" "add" _ _ _ _ _ _ _ _ _ _ _ _ _ _ _ _ := X
  refine Wp.cast (g' := mkF m 0 #[.val (.ref rt), .val (.long x), .second] []) (by first | (simp [entryFrame, mkF, argsToLocals, Value.category, maxLocals]; done) | rfl) ?_
  refine w_aloadN X q2_2_0 rfl (rfl) ?_
  refine w_getF X q2_2_1 (host := "") (Or.inl (wd_42 hw)) Via.refl Fc (fun T X => ?_)
  refine w_lloadN X q2_2_4 rfl ?_
  refine w_ldc2J X q2_2_5 (wd_49 hw) ?_
  refine w_ladd X q2_2_8 ?_
  refine w_ldc2J X q2_2_9 (wd_50 hw) ?_
  refine w_ldiv X q2_2_12 (by decide) ?_
  refine w_callS X q2_2_13 (wd_51 hw) (wd_52 hw) (wd_53 hw) (wd_54 hw) (by decide) (argsL := [(.long ((x + (500 : Int64)) / (1000 : Int64)))]) (S := [(.ref tm)]) (m_vof hw hC) pd_15 rfl rfl rfl (by decide) (leR rfl) (by decide) (by decide) (fun T h1 v1 L1 X q1 => ?_)
  obtain ⟨bv1, rfl, Jn1, Kc1⟩ := q1
  show Wp _ _ _ _ (T.setTop (mkF _ _ _ [(.ref bv1), (.ref tm)]))
  refine w_lconst X (1 : Int64) q2_2_16 rfl ?_
  refine w_callS X q2_2_17 (wd_51 hw) (wd_52 hw) (wd_53 hw) (wd_54 hw) (by decide) (argsL := [(.long (1 : Int64))]) (S := [(.ref bv1), (.ref tm)]) (m_vof hw hC) pd_15 rfl rfl rfl (by decide) (leR rfl) (by decide) (by decide) (fun T h2 v2 L2 X q2 => ?_)
  obtain ⟨bv2, rfl, Jn2, Kc2⟩ := q2
  show Wp _ _ _ _ (T.setTop (mkF _ _ _ [(.ref bv2), (.ref bv1), (.ref tm)]))
  refine w_lam X hnm hL q2_2_20 rfl (leR rfl) ?_
  have f1 := ((T0.kp Kc1 own_ok0 (List.not_mem_nil)).kp Kc2 own_ok0 (List.not_mem_nil))
  have f2 := (Jn1.1.keep Kc2)
  have f3 := (Jn1.2.keep Kc2 (List.not_mem_nil))
  have jq4 : own_J Z h2 bv1 ((x + (500 : Int64)) / (1000 : Int64)) := ⟨f2, f3⟩
  have jq5 : own_J Z h2 bv2 (1 : Int64) := ⟨Jn2.1, Jn2.2⟩
  have f6 := ((Ert.keep Kc1).keep Kc2)
  have f7 := ((T0.exa.keep Kc1).keep Kc2)
  refine w_callV X q2_2_25 (wd_62 hw) (wd_63 hw) (notFace_of_selects (args := #[]) (mvT X.hZ (wd_65 hw))) (wd_65 hw) (wd_64 hw) (wd_25 hw) (wd_66 hw) (by decide) f7 (argsL := [(.ref bv1), (.ref bv2), (.ref lam)]) (S := []) (m_mg hw f1 hlen jq4 jq5 hL hC) pd_16 rfl rfl rfl (by decide) (leR rfl) (by decide) (by decide) (fun T h3 v3 L3 X q3 => ?_)
  obtain ⟨rr3, rfl, Tr3, ws3, Kc3, hcl3⟩ := q3
  show Wp _ _ _ _ (T.setTop (mkF _ _ _ [(.ref rr3)]))
  refine w_pop X q2_2_28 rfl ?_
  refine w_aloadN X q2_2_29 rfl (rfl) ?_
  refine w_dup X q2_2_30 rfl ?_
  have f8 := (((Fr.keep Kc1 (List.not_mem_nil)).keep Kc2 (List.not_mem_nil)).keep Kc3 (hcl3 _ _ f6 (by decide) (by decide)))
  refine w_getF X q2_2_31 (host := "") (Or.inl (wd_120 hw)) Via.refl f8 (fun T X => ?_)
  refine w_lconst X (1 : Int64) q2_2_34 rfl ?_
  refine w_ladd X q2_2_35 ?_
  have f9 := (f6.keep Kc3)
  refine w_putF X q2_2_36 (host := "") (Or.inl (wd_120 hw)) Via.refl f8 f9 (Or.inl (wd_121 hw)) (wd_15 hw) (ty := .long) (by decide) rfl rfl grt (fun T h4 X W4 => ?_)
  have f10 := f8.same W4
  have f11 := (f9.wr W4)
  have f12 := (Tr3.exa.wr W4)
  have f13 := (Tr3.kp (Keep.of_wr W4) (own_ok1 f11 (by decide) (by decide)) (ni1 (Exa.ne f12 f11 (by decide))))
  have f14 := ((((Fc.keep Kc1 (List.not_mem_nil)).keep Kc2 (List.not_mem_nil)).keep Kc3 (hcl3 _ _ f6 (by decide) (by decide))).other W4 (Or.inr (slot_ne (Or.inr (wd_43 hw)) (Or.inl (wd_121 hw)) (by decide) (t := (.object "java/util/TreeMap")) (t' := .long) (by decide) (by decide))))
  exact w_retV X q2_2_39 ⟨rfl, ⟨tm, grt, f11, f14, f10, f13, Or.inl rfl⟩⟩ (by decide) (by decide)
theorem m_pii (hw : own_hw a0 Z) {h0 : Heap} {it tm ef : Addr} {mc : Int32} (git : n0 ≤ it) (Eit : Exa Z h0 it "java/util/TreeMap$EntryIterator") (F0 : Fld Z h0 it "java/util/TreeMap$PrivateEntryIterator" "this$0" "Ljava/util/TreeMap;" .null) (F1 : Fld Z h0 it "java/util/TreeMap$PrivateEntryIterator" "expectedModCount" "I" (.int 0)) (F2 : Fld Z h0 it "java/util/TreeMap$PrivateEntryIterator" "lastReturned" "Ljava/util/TreeMap$Entry;" .null) (F3 : Fld Z h0 it "java/util/TreeMap$PrivateEntryIterator" "next" "Ljava/util/TreeMap$Entry;" .null) (Fm : Fld Z h0 tm "java/util/TreeMap" "modCount" "I" (.int mc)) (ntm : tm ≠ it) :
    Does l Z n0 ⟨"java/util/TreeMap$PrivateEntryIterator", "<init>", "(Ljava/util/TreeMap;Ljava/util/TreeMap$Entry;)V"⟩ jdk_2750_method_1_code 3 none [] { frames := 1, cells := 0, slots := 0, locals := 12 } #[(.ref it), (.ref tm), (.ref ef)] h0 (fun v h => v = none ∧ own_I Z n0 h it tm mc .null (.ref ef) ∧ Keep h0 h [it]) := by
  refine Does.start (plainFor_of_name pn_9) ?_
  intro p e s m below meth c T X
  replace X : Sd _ _ _ _ _ "java/util/TreeMap$PrivateEntryIterator" "<init>" _ _ _ _ _ _ _ _ _ _ _ _ _ _ _ _ := X
  refine Wp.cast (g' := mkF m 0 #[.val (.ref it), .val (.ref tm), .val (.ref ef)] []) (by first | (simp [entryFrame, mkF, argsToLocals, Value.category, maxLocals]; done) | rfl) ?_
  refine w_aloadN X k2750_1_0 rfl (rfl) ?_
  refine w_aloadN X k2750_1_1 rfl (rfl) ?_
  refine w_putF X k2750_1_2 (host := "") (Or.inl (wd_231 hw)) Via.refl F0 Eit (Or.inr ⟨(wd_232 hw), rfl, rfl⟩) (wd_212 hw) (ty := (.object "java/util/TreeMap")) (by decide) rfl rfl git (fun T h1 X W1 => ?_)
  have f1 := F0.same W1
  have K2 : Keep h0 h1 [it] := (Keep.refl h0 [it]).wr W1 (Or.inl (List.mem_of_getElem? (i := 0) rfl))
  refine w_aloadN X k2750_1_5 rfl (rfl) ?_
  refine w_initO X k2750_1_6 (wd_233 hw) (wd_21 hw) (wd_22 hw) rfl (by decide) (leR rfl) (fun T X => ?_)
  refine w_aloadN X k2750_1_9 rfl (rfl) ?_
  refine w_aloadN X k2750_1_10 rfl (rfl) ?_
  have f3 := (Fm.other W1 (Or.inl ntm))
  refine w_getFR X k2750_1_11 (wd_234 hw) f3 ?_
  have f4 := (Eit.wr W1)
  have f5 := (F1.other W1 (Or.inr (slot_ne (Or.inl (wd_236 hw)) (Or.inr (wd_232 hw)) (by decide) (t := .int) (t' := (.object "java/util/TreeMap")) (by decide) (by decide))))
  refine w_putF X k2750_1_14 (host := "") (Or.inl (wd_235 hw)) Via.refl f5 f4 (Or.inl (wd_236 hw)) (wd_212 hw) (ty := .int) (by decide) rfl rfl git (fun T h2 X W2 => ?_)
  have f6 := f5.same W2
  have K7 : Keep h0 h2 [it] := K2.wr W2 (Or.inl (List.mem_of_getElem? (i := 0) rfl))
  refine w_aloadN X k2750_1_17 rfl (rfl) ?_
  refine w_aconstNull X k2750_1_18 ?_
  have f8 := (f4.wr W2)
  have f9 := ((F2.other W1 (Or.inr (slot_ne (Or.inl (wd_238 hw)) (Or.inr (wd_232 hw)) (by decide) (t := (.object "java/util/TreeMap$Entry")) (t' := (.object "java/util/TreeMap")) (by decide) (by decide)))).other W2 (Or.inr (slot_ne (Or.inl (wd_238 hw)) (Or.inl (wd_236 hw)) (by decide) (t := (.object "java/util/TreeMap$Entry")) (t' := .int) (by decide) (by decide))))
  refine w_putF X k2750_1_19 (host := "") (Or.inl (wd_237 hw)) Via.refl f9 f8 (Or.inl (wd_238 hw)) (wd_212 hw) (ty := (.object "java/util/TreeMap$Entry")) (by decide) rfl rfl git (fun T h3 X W3 => ?_)
  have f10 := f9.same W3
  have K11 : Keep h0 h3 [it] := K7.wr W3 (Or.inl (List.mem_of_getElem? (i := 0) rfl))
  refine w_aloadN X k2750_1_22 rfl (rfl) ?_
  refine w_aloadN X k2750_1_23 rfl (rfl) ?_
  have f12 := (f8.wr W3)
  have f13 := (((F3.other W1 (Or.inr (slot_ne (Or.inl (wd_240 hw)) (Or.inr (wd_232 hw)) (by decide) (t := (.object "java/util/TreeMap$Entry")) (t' := (.object "java/util/TreeMap")) (by decide) (by decide)))).other W2 (Or.inr (slot_ne (Or.inl (wd_240 hw)) (Or.inl (wd_236 hw)) (by decide) (t := (.object "java/util/TreeMap$Entry")) (t' := .int) (by decide) (by decide)))).other W3 (Or.inr (slot_ne (Or.inl (wd_240 hw)) (Or.inl (wd_238 hw)) (by decide) (t := (.object "java/util/TreeMap$Entry")) (t' := (.object "java/util/TreeMap$Entry")) (by decide) (by decide))))
  refine w_putF X k2750_1_24 (host := "") (Or.inl (wd_239 hw)) Via.refl f13 f12 (Or.inl (wd_240 hw)) (wd_212 hw) (ty := (.object "java/util/TreeMap$Entry")) (by decide) rfl rfl git (fun T h4 X W4 => ?_)
  have f14 := f13.same W4
  have K15 : Keep h0 h4 [it] := K11.wr W4 (Or.inl (List.mem_of_getElem? (i := 0) rfl))
  have f16 := (f12.wr W4)
  have f17 := (((f1.other W2 (Or.inr (slot_ne (Or.inr (wd_232 hw)) (Or.inl (wd_236 hw)) (by decide) (t := (.object "java/util/TreeMap")) (t' := .int) (by decide) (by decide)))).other W3 (Or.inr (slot_ne (Or.inr (wd_232 hw)) (Or.inl (wd_238 hw)) (by decide) (t := (.object "java/util/TreeMap")) (t' := (.object "java/util/TreeMap$Entry")) (by decide) (by decide)))).other W4 (Or.inr (slot_ne (Or.inr (wd_232 hw)) (Or.inl (wd_240 hw)) (by decide) (t := (.object "java/util/TreeMap")) (t' := (.object "java/util/TreeMap$Entry")) (by decide) (by decide))))
  have f18 := ((f6.other W3 (Or.inr (slot_ne (Or.inl (wd_236 hw)) (Or.inl (wd_238 hw)) (by decide) (t := .int) (t' := (.object "java/util/TreeMap$Entry")) (by decide) (by decide)))).other W4 (Or.inr (slot_ne (Or.inl (wd_236 hw)) (Or.inl (wd_240 hw)) (by decide) (t := .int) (t' := (.object "java/util/TreeMap$Entry")) (by decide) (by decide))))
  have f19 := (f10.other W4 (Or.inr (slot_ne (Or.inl (wd_238 hw)) (Or.inl (wd_240 hw)) (by decide) (t := (.object "java/util/TreeMap$Entry")) (t' := (.object "java/util/TreeMap$Entry")) (by decide) (by decide))))
  exact w_retV X k2750_1_27 ⟨rfl, ⟨git, f16, f17, f18, f19, f14⟩, K15⟩ (by decide) (by decide)
theorem m_eii (hw : own_hw a0 Z) {h0 : Heap} {it tm ef : Addr} {mc : Int32} (git : n0 ≤ it) (Eit : Exa Z h0 it "java/util/TreeMap$EntryIterator") (F0 : Fld Z h0 it "java/util/TreeMap$PrivateEntryIterator" "this$0" "Ljava/util/TreeMap;" .null) (F1 : Fld Z h0 it "java/util/TreeMap$PrivateEntryIterator" "expectedModCount" "I" (.int 0)) (F2 : Fld Z h0 it "java/util/TreeMap$PrivateEntryIterator" "lastReturned" "Ljava/util/TreeMap$Entry;" .null) (F3 : Fld Z h0 it "java/util/TreeMap$PrivateEntryIterator" "next" "Ljava/util/TreeMap$Entry;" .null) (Fm : Fld Z h0 tm "java/util/TreeMap" "modCount" "I" (.int mc)) (ntm : tm ≠ it) :
    Does l Z n0 ⟨"java/util/TreeMap$EntryIterator", "<init>", "(Ljava/util/TreeMap;Ljava/util/TreeMap$Entry;)V"⟩ jdk_2737_method_1_code 3 none [] { frames := 2, cells := 0, slots := 0, locals := 26 } #[(.ref it), (.ref tm), (.ref ef)] h0 (fun v h => v = none ∧ own_I Z n0 h it tm mc .null (.ref ef) ∧ Keep h0 h [it]) := by
  refine Does.start (plainFor_of_name pn_10) ?_
  intro p e s m below meth c T X
  replace X : Sd _ _ _ _ _ "java/util/TreeMap$EntryIterator" "<init>" _ _ _ _ _ _ _ _ _ _ _ _ _ _ _ _ := X
  refine Wp.cast (g' := mkF m 0 #[.val (.ref it), .val (.ref tm), .val (.ref ef)] []) (by first | (simp [entryFrame, mkF, argsToLocals, Value.category, maxLocals]; done) | rfl) ?_
  refine w_aloadN X k2737_1_0 rfl (rfl) ?_
  refine w_aloadN X k2737_1_1 rfl (rfl) ?_
  refine w_aloadN X k2737_1_2 rfl (rfl) ?_
  refine w_callI X k2737_1_3 rfl (wd_225 hw) (wd_226 hw) (wd_229 hw) (wd_230 hw) (by decide) (argsL := [(.ref tm), (.ref ef)]) (S := []) (m_pii hw git Eit F0 F1 F2 F3 Fm ntm) pd_17 rfl rfl rfl (by decide) (leR rfl) (by decide) (by decide) (fun T h1 v1 L1 X q1 => ?_)
  obtain ⟨rfl, I_1, Kc1⟩ := q1
  have K1 : Keep h0 h1 [it] := (Keep.refl h0 [it]).trans Kc1 (fun x hx => by cases List.mem_singleton.mp hx; exact (Or.inl (List.mem_of_getElem? (i := 0) rfl)))
  show Wp _ _ _ _ (T.setTop (mkF _ _ _ []))
  exact w_retV X k2737_1_6 ⟨rfl, ⟨I_1.1, I_1.2.1, I_1.2.2.1, I_1.2.2.2.1, I_1.2.2.2.2.1, I_1.2.2.2.2.2⟩, K1⟩ (by decide) (by decide)
theorem m_gf1 (hw : own_hw a0 Z) {h0 : Heap} {tm er : Addr} (Fr : Fld Z h0 tm "java/util/TreeMap" "root" "Ljava/util/TreeMap$Entry;" (.ref er)) (Fl : Fld Z h0 er "java/util/TreeMap$Entry" "left" "Ljava/util/TreeMap$Entry;" .null) :
    Does l Z n0 ⟨"java/util/TreeMap", "getFirstEntry", "()Ljava/util/TreeMap$Entry;"⟩ jdk_2729_method_72_code 2 (some (.object "java/util/TreeMap$Entry")) [] { frames := 0, cells := 0, slots := 0, locals := 0 } #[(.ref tm)] h0 (fun v h => v = some (.ref er) ∧ h0 = h) := by
  refine Does.start (plainFor_of_name pn_2) ?_
  intro p e s m below meth c T X
  replace X : Sd _ _ _ _ _ "java/util/TreeMap" "getFirstEntry" _ _ _ _ _ _ _ _ _ _ _ _ _ _ _ _ := X
  refine Wp.cast (g' := mkF m 0 #[.val (.ref tm), .unset] []) (by first | (simp [entryFrame, mkF, argsToLocals, Value.category, maxLocals]; done) | rfl) ?_
  refine w_aloadN X k2729_72_0 rfl (rfl) ?_
  refine w_getF X k2729_72_1 (host := "") (Or.inl (wd_71 hw)) Via.refl Fr (fun T X => ?_)
  refine w_astoreN X #[.val (.ref tm), .val (.ref er)] k2729_72_4 (rfl) rfl ?_
  refine w_aloadN X k2729_72_5 rfl (rfl) ?_
  refine w_ifnullF X k2729_72_6 ?_
  refine w_aloadN X k2729_72_9 rfl (rfl) ?_
  refine w_getF X k2729_72_10 (host := "") (Or.inl (wd_219 hw)) Via.refl Fl (fun T X => ?_)
  refine w_ifnullT X k2729_72_13 ?_
  refine w_aloadN X k2729_72_24 rfl (rfl) ?_
  exact w_retR X rfl (rfl) rfl k2729_72_25 ⟨rfl, rfl⟩ (by decide) (by decide)
theorem m_gf2 (hw : own_hw a0 Z) {h0 : Heap} {tm er el : Addr} (Fr : Fld Z h0 tm "java/util/TreeMap" "root" "Ljava/util/TreeMap$Entry;" (.ref er)) (Fl : Fld Z h0 er "java/util/TreeMap$Entry" "left" "Ljava/util/TreeMap$Entry;" (.ref el)) (Fl2 : Fld Z h0 el "java/util/TreeMap$Entry" "left" "Ljava/util/TreeMap$Entry;" .null) :
    Does l Z n0 ⟨"java/util/TreeMap", "getFirstEntry", "()Ljava/util/TreeMap$Entry;"⟩ jdk_2729_method_72_code 2 (some (.object "java/util/TreeMap$Entry")) [] { frames := 0, cells := 0, slots := 0, locals := 0 } #[(.ref tm)] h0 (fun v h => v = some (.ref el) ∧ h0 = h) := by
  refine Does.start (plainFor_of_name pn_2) ?_
  intro p e s m below meth c T X
  replace X : Sd _ _ _ _ _ "java/util/TreeMap" "getFirstEntry" _ _ _ _ _ _ _ _ _ _ _ _ _ _ _ _ := X
  refine Wp.cast (g' := mkF m 0 #[.val (.ref tm), .unset] []) (by first | (simp [entryFrame, mkF, argsToLocals, Value.category, maxLocals]; done) | rfl) ?_
  refine w_aloadN X k2729_72_0 rfl (rfl) ?_
  refine w_getF X k2729_72_1 (host := "") (Or.inl (wd_71 hw)) Via.refl Fr (fun T X => ?_)
  refine w_astoreN X #[.val (.ref tm), .val (.ref er)] k2729_72_4 (rfl) rfl ?_
  refine w_aloadN X k2729_72_5 rfl (rfl) ?_
  refine w_ifnullF X k2729_72_6 ?_
  refine w_aloadN X k2729_72_9 rfl (rfl) ?_
  refine w_getF X k2729_72_10 (host := "") (Or.inl (wd_219 hw)) Via.refl Fl (fun T X => ?_)
  refine w_ifnullF X k2729_72_13 ?_
  refine w_aloadN X k2729_72_16 rfl (rfl) ?_
  refine w_getF X k2729_72_17 (host := "") (Or.inl (wd_219 hw)) Via.refl Fl (fun T X => ?_)
  refine w_astoreN X #[.val (.ref tm), .val (.ref el)] k2729_72_20 (rfl) rfl ?_
  refine w_goto X k2729_72_21 ?_
  refine w_aloadN X k2729_72_9 rfl (rfl) ?_
  refine w_getF X k2729_72_10 (host := "") (Or.inl (wd_219 hw)) Via.refl Fl2 (fun T X => ?_)
  refine w_ifnullT X k2729_72_13 ?_
  refine w_aloadN X k2729_72_24 rfl (rfl) ?_
  exact w_retR X rfl (rfl) rfl k2729_72_25 ⟨rfl, rfl⟩ (by decide) (by decide)
theorem m_it1 (hw : own_hw a0 Z) {h0 : Heap} {es tm er : Addr} {mc : Int32} (Ees : Exa Z h0 es "java/util/TreeMap$EntrySet") (Fs : Fld Z h0 es "java/util/TreeMap$EntrySet" "this$0" "Ljava/util/TreeMap;" (.ref tm)) (Etm : Exa Z h0 tm "java/util/TreeMap") (Fr : Fld Z h0 tm "java/util/TreeMap" "root" "Ljava/util/TreeMap$Entry;" (.ref er)) (Fm : Fld Z h0 tm "java/util/TreeMap" "modCount" "I" (.int mc)) (Fl : Fld Z h0 er "java/util/TreeMap$Entry" "left" "Ljava/util/TreeMap$Entry;" .null) :
    Does l Z n0 ⟨"java/util/TreeMap$EntrySet", "iterator", "()Ljava/util/Iterator;"⟩ jdk_2738_method_2_code 1 (some (.object "java/util/Iterator")) [] { frames := 3, cells := 1, slots := 4, locals := 41 } #[(.ref es)] h0 (fun v h => ∃ it, v = some (.ref it) ∧ h0.size ≤ it ∧ own_I Z n0 h it tm mc .null (.ref er) ∧ Keep h0 h []) := by
  refine Does.start (plainFor_of_name pn_11) ?_
  intro p e s m below meth c T X
  replace X : Sd _ _ _ _ _ "java/util/TreeMap$EntrySet" "iterator" _ _ _ _ _ _ _ _ _ _ _ _ _ _ _ _ := X
  refine Wp.cast (g' := mkF m 0 #[.val (.ref es)] []) (by first | (simp [entryFrame, mkF, argsToLocals, Value.category, maxLocals]; done) | rfl) ?_
  refine w_new X k2738_2_0 (wd_211 hw) (wd_212 hw) (wd_213 hw) (by decide) (by decide) (fun T h1 b1 g1 gn1 X E1 A1 D1 => ?_)
  have sz_b1 : h0.size ≤ b1 := Nat.le_trans (Keep.refl h0 []).1 (Nat.le_of_eq g1.symm)
  have K1 : Keep h0 h1 [] := (Keep.refl h0 []).ext E1
  refine w_dup X k2738_2_3 rfl ?_
  refine w_aloadN X k2738_2_4 rfl (rfl) ?_
  have f2 := (Fs.ext E1)
  refine w_getF X k2738_2_5 (host := "") (Or.inl (wd_187 hw)) Via.refl f2 (fun T X => ?_)
  refine w_aloadN X k2738_2_8 rfl (rfl) ?_
  refine w_getF X k2738_2_9 (host := "") (Or.inl (wd_187 hw)) Via.refl f2 (fun T X => ?_)
  have f3 := (Fr.ext E1)
  have f4 := (Fl.ext E1)
  have f5 := (Etm.ext E1)
  refine w_callV X k2738_2_12 (wd_214 hw) (wd_215 hw) (notFace_of_selects (args := #[]) (mvT X.hZ (wd_217 hw))) (wd_217 hw) (wd_216 hw) (wd_25 hw) (wd_218 hw) (by decide) f5 (argsL := []) (S := [(.ref tm), (.ref b1), (.ref b1)]) (m_gf1 hw f3 f4) pd_18 rfl rfl rfl (by decide) (leR rfl) (by decide) (by decide) (fun T h2 v2 L2 X q2 => ?_)
  obtain ⟨rfl, rfl⟩ := q2
  show Wp _ _ _ _ (T.setTop (mkF _ _ _ [(.ref er), (.ref tm), (.ref b1), (.ref b1)]))
  have f6 := (Fm.ext E1)
  refine w_callI X k2738_2_15 rfl (wd_221 hw) (wd_222 hw) (wd_213 hw) (wd_224 hw) (by decide) (argsL := [(.ref tm), (.ref er)]) (S := [(.ref b1)]) (m_eii hw (ef := er) gn1 A1 (show Fld Z h1 b1 "java/util/TreeMap$PrivateEntryIterator" "this$0" "Ljava/util/TreeMap;" .null from D1 (Or.inr (wd_232 hw)) (ty := (.object "java/util/TreeMap")) (by decide)) (show Fld Z h1 b1 "java/util/TreeMap$PrivateEntryIterator" "expectedModCount" "I" (.int (0 : Int32)) from D1 (Or.inl (wd_236 hw)) (ty := .int) (by decide)) (show Fld Z h1 b1 "java/util/TreeMap$PrivateEntryIterator" "lastReturned" "Ljava/util/TreeMap$Entry;" .null from D1 (Or.inl (wd_238 hw)) (ty := (.object "java/util/TreeMap$Entry")) (by decide)) (show Fld Z h1 b1 "java/util/TreeMap$PrivateEntryIterator" "next" "Ljava/util/TreeMap$Entry;" .null from D1 (Or.inl (wd_240 hw)) (ty := (.object "java/util/TreeMap$Entry")) (by decide)) f6 (Exa.ne f5 A1 (by decide))) pd_17 rfl rfl rfl (by decide) (leR rfl) (by decide) (by decide) (fun T h3 v3 L3 X q3 => ?_)
  obtain ⟨rfl, I_3, Kc3⟩ := q3
  have K7 : Keep h0 h3 [] := K1.trans Kc3 (fun x hx => by cases List.mem_singleton.mp hx; exact (Or.inr sz_b1))
  show Wp _ _ _ _ (T.setTop (mkF _ _ _ [(.ref b1)]))
  exact w_retR X rfl (rfl) rfl k2738_2_18 ⟨_, rfl, sz_b1, ⟨I_3.1, I_3.2.1, I_3.2.2.1, I_3.2.2.2.1, I_3.2.2.2.2.1, I_3.2.2.2.2.2⟩, K7⟩ (by decide) (by decide)
theorem m_it2 (hw : own_hw a0 Z) {h0 : Heap} {es tm er el : Addr} {mc : Int32} (Ees : Exa Z h0 es "java/util/TreeMap$EntrySet") (Fs : Fld Z h0 es "java/util/TreeMap$EntrySet" "this$0" "Ljava/util/TreeMap;" (.ref tm)) (Etm : Exa Z h0 tm "java/util/TreeMap") (Fr : Fld Z h0 tm "java/util/TreeMap" "root" "Ljava/util/TreeMap$Entry;" (.ref er)) (Fm : Fld Z h0 tm "java/util/TreeMap" "modCount" "I" (.int mc)) (Fl : Fld Z h0 er "java/util/TreeMap$Entry" "left" "Ljava/util/TreeMap$Entry;" (.ref el)) (Fl2 : Fld Z h0 el "java/util/TreeMap$Entry" "left" "Ljava/util/TreeMap$Entry;" .null) :
    Does l Z n0 ⟨"java/util/TreeMap$EntrySet", "iterator", "()Ljava/util/Iterator;"⟩ jdk_2738_method_2_code 1 (some (.object "java/util/Iterator")) [] { frames := 3, cells := 1, slots := 4, locals := 41 } #[(.ref es)] h0 (fun v h => ∃ it, v = some (.ref it) ∧ h0.size ≤ it ∧ own_I Z n0 h it tm mc .null (.ref el) ∧ Keep h0 h []) := by
  refine Does.start (plainFor_of_name pn_11) ?_
  intro p e s m below meth c T X
  replace X : Sd _ _ _ _ _ "java/util/TreeMap$EntrySet" "iterator" _ _ _ _ _ _ _ _ _ _ _ _ _ _ _ _ := X
  refine Wp.cast (g' := mkF m 0 #[.val (.ref es)] []) (by first | (simp [entryFrame, mkF, argsToLocals, Value.category, maxLocals]; done) | rfl) ?_
  refine w_new X k2738_2_0 (wd_211 hw) (wd_212 hw) (wd_213 hw) (by decide) (by decide) (fun T h1 b1 g1 gn1 X E1 A1 D1 => ?_)
  have sz_b1 : h0.size ≤ b1 := Nat.le_trans (Keep.refl h0 []).1 (Nat.le_of_eq g1.symm)
  have K1 : Keep h0 h1 [] := (Keep.refl h0 []).ext E1
  refine w_dup X k2738_2_3 rfl ?_
  refine w_aloadN X k2738_2_4 rfl (rfl) ?_
  have f2 := (Fs.ext E1)
  refine w_getF X k2738_2_5 (host := "") (Or.inl (wd_187 hw)) Via.refl f2 (fun T X => ?_)
  refine w_aloadN X k2738_2_8 rfl (rfl) ?_
  refine w_getF X k2738_2_9 (host := "") (Or.inl (wd_187 hw)) Via.refl f2 (fun T X => ?_)
  have f3 := (Fr.ext E1)
  have f4 := (Fl.ext E1)
  have f5 := (Fl2.ext E1)
  have f6 := (Etm.ext E1)
  refine w_callV X k2738_2_12 (wd_214 hw) (wd_215 hw) (notFace_of_selects (args := #[]) (mvT X.hZ (wd_217 hw))) (wd_217 hw) (wd_216 hw) (wd_25 hw) (wd_218 hw) (by decide) f6 (argsL := []) (S := [(.ref tm), (.ref b1), (.ref b1)]) (m_gf2 hw f3 f4 f5) pd_18 rfl rfl rfl (by decide) (leR rfl) (by decide) (by decide) (fun T h2 v2 L2 X q2 => ?_)
  obtain ⟨rfl, rfl⟩ := q2
  show Wp _ _ _ _ (T.setTop (mkF _ _ _ [(.ref el), (.ref tm), (.ref b1), (.ref b1)]))
  have f7 := (Fm.ext E1)
  refine w_callI X k2738_2_15 rfl (wd_221 hw) (wd_222 hw) (wd_213 hw) (wd_224 hw) (by decide) (argsL := [(.ref tm), (.ref el)]) (S := [(.ref b1)]) (m_eii hw (ef := el) gn1 A1 (show Fld Z h1 b1 "java/util/TreeMap$PrivateEntryIterator" "this$0" "Ljava/util/TreeMap;" .null from D1 (Or.inr (wd_232 hw)) (ty := (.object "java/util/TreeMap")) (by decide)) (show Fld Z h1 b1 "java/util/TreeMap$PrivateEntryIterator" "expectedModCount" "I" (.int (0 : Int32)) from D1 (Or.inl (wd_236 hw)) (ty := .int) (by decide)) (show Fld Z h1 b1 "java/util/TreeMap$PrivateEntryIterator" "lastReturned" "Ljava/util/TreeMap$Entry;" .null from D1 (Or.inl (wd_238 hw)) (ty := (.object "java/util/TreeMap$Entry")) (by decide)) (show Fld Z h1 b1 "java/util/TreeMap$PrivateEntryIterator" "next" "Ljava/util/TreeMap$Entry;" .null from D1 (Or.inl (wd_240 hw)) (ty := (.object "java/util/TreeMap$Entry")) (by decide)) f7 (Exa.ne f6 A1 (by decide))) pd_17 rfl rfl rfl (by decide) (leR rfl) (by decide) (by decide) (fun T h3 v3 L3 X q3 => ?_)
  obtain ⟨rfl, I_3, Kc3⟩ := q3
  have K8 : Keep h0 h3 [] := K1.trans Kc3 (fun x hx => by cases List.mem_singleton.mp hx; exact (Or.inr sz_b1))
  show Wp _ _ _ _ (T.setTop (mkF _ _ _ [(.ref b1)]))
  exact w_retR X rfl (rfl) rfl k2738_2_18 ⟨_, rfl, sz_b1, ⟨I_3.1, I_3.2.1, I_3.2.2.1, I_3.2.2.2.1, I_3.2.2.2.2.1, I_3.2.2.2.2.2⟩, K8⟩ (by decide) (by decide)
theorem m_hnn (hw : own_hw a0 Z) {h0 : Heap} {it : Addr} (Fn : Fld Z h0 it "java/util/TreeMap$PrivateEntryIterator" "next" "Ljava/util/TreeMap$Entry;" .null) :
    Does l Z n0 ⟨"java/util/TreeMap$PrivateEntryIterator", "hasNext", "()Z"⟩ jdk_2750_method_2_code 1 (some .boolean) [] { frames := 0, cells := 0, slots := 0, locals := 0 } #[(.ref it)] h0 (fun v h => v = some (.int (0 : Int32)) ∧ h0 = h) := by
  refine Does.start (plainFor_of_name pn_9) ?_
  intro p e s m below meth c T X
  replace X : Sd _ _ _ _ _ "java/util/TreeMap$PrivateEntryIterator" "hasNext" _ _ _ _ _ _ _ _ _ _ _ _ _ _ _ _ := X
  refine Wp.cast (g' := mkF m 0 #[.val (.ref it)] []) (by first | (simp [entryFrame, mkF, argsToLocals, Value.category, maxLocals]; done) | rfl) ?_
  refine w_aloadN X k2750_2_0 rfl (rfl) ?_
  refine w_getF X k2750_2_1 (host := "") (Or.inl (wd_239 hw)) Via.refl Fn (fun T X => ?_)
  refine w_ifnullT X k2750_2_4 ?_
  refine w_iconst X (0 : Int32) k2750_2_11 rfl ?_
  exact w_ret_boolean X (0 : Int32) (by decide) k2750_2_12 ⟨rfl, rfl⟩ (by decide) (by decide)
theorem m_hnr (hw : own_hw a0 Z) {h0 : Heap} {it en : Addr} (Fn : Fld Z h0 it "java/util/TreeMap$PrivateEntryIterator" "next" "Ljava/util/TreeMap$Entry;" (.ref en)) :
    Does l Z n0 ⟨"java/util/TreeMap$PrivateEntryIterator", "hasNext", "()Z"⟩ jdk_2750_method_2_code 1 (some .boolean) [] { frames := 0, cells := 0, slots := 0, locals := 0 } #[(.ref it)] h0 (fun v h => v = some (.int (1 : Int32)) ∧ h0 = h) := by
  refine Does.start (plainFor_of_name pn_9) ?_
  intro p e s m below meth c T X
  replace X : Sd _ _ _ _ _ "java/util/TreeMap$PrivateEntryIterator" "hasNext" _ _ _ _ _ _ _ _ _ _ _ _ _ _ _ _ := X
  refine Wp.cast (g' := mkF m 0 #[.val (.ref it)] []) (by first | (simp [entryFrame, mkF, argsToLocals, Value.category, maxLocals]; done) | rfl) ?_
  refine w_aloadN X k2750_2_0 rfl (rfl) ?_
  refine w_getF X k2750_2_1 (host := "") (Or.inl (wd_239 hw)) Via.refl Fn (fun T X => ?_)
  refine w_ifnullF X k2750_2_4 ?_
  refine w_iconst X (1 : Int32) k2750_2_7 rfl ?_
  refine w_goto X k2750_2_8 ?_
  exact w_ret_boolean X (1 : Int32) (by decide) k2750_2_12 ⟨rfl, rfl⟩ (by decide) (by decide)
theorem m_suA (hw : own_hw a0 Z) {h0 : Heap} {ex : Addr} (F0 : Fld Z h0 ex "java/util/TreeMap$Entry" "right" "Ljava/util/TreeMap$Entry;" .null) (F1 : Fld Z h0 ex "java/util/TreeMap$Entry" "parent" "Ljava/util/TreeMap$Entry;" .null) :
    Does l Z n0 ⟨"java/util/TreeMap", "successor", "(Ljava/util/TreeMap$Entry;)Ljava/util/TreeMap$Entry;"⟩ jdk_2729_method_74_code 3 (some (.object "java/util/TreeMap$Entry")) [] { frames := 0, cells := 0, slots := 0, locals := 0 } #[(.ref ex)] h0 (fun v h => v = some .null ∧ h0 = h) := by
  refine Does.start (plainFor_of_name pn_2) ?_
  intro p e s m below meth c T X
  replace X : Sd _ _ _ _ _ "java/util/TreeMap" "successor" _ _ _ _ _ _ _ _ _ _ _ _ _ _ _ _ := X
  refine Wp.cast (g' := mkF m 0 #[.val (.ref ex), .unset, .unset] []) (by first | (simp [entryFrame, mkF, argsToLocals, Value.category, maxLocals]; done) | rfl) ?_
  refine w_aloadN X k2729_74_0 rfl (rfl) ?_
  refine w_ifnonnullT X k2729_74_1 ?_
  refine w_aloadN X k2729_74_6 rfl (rfl) ?_
  refine w_getF X k2729_74_7 (host := "") (Or.inl (wd_150 hw)) Via.refl F0 (fun T X => ?_)
  refine w_ifnullT X k2729_74_10 ?_
  refine w_aloadN X k2729_74_35 rfl (rfl) ?_
  refine w_getF X k2729_74_36 (host := "") (Or.inl (wd_163 hw)) Via.refl F1 (fun T X => ?_)
  refine w_astoreN X #[.val (.ref ex), .val .null, .unset] k2729_74_39 (rfl) rfl ?_
  refine w_aloadN X k2729_74_40 rfl (rfl) ?_
  refine w_astoreN X #[.val (.ref ex), .val .null, .val (.ref ex)] k2729_74_41 (rfl) rfl ?_
  refine w_aloadN X k2729_74_42 rfl (rfl) ?_
  refine w_ifnullT X k2729_74_43 ?_
  refine w_aloadN X k2729_74_64 rfl (rfl) ?_
  exact w_retR X rfl (rfl) rfl k2729_74_65 ⟨rfl, rfl⟩ (by decide) (by decide)
theorem m_suB (hw : own_hw a0 Z) {h0 : Heap} {ex pe : Addr} {pv : Value} (hpv : pv.isRef = true) (hne : ¬ Value.ref ex = pv) (F0 : Fld Z h0 ex "java/util/TreeMap$Entry" "right" "Ljava/util/TreeMap$Entry;" .null) (F1 : Fld Z h0 ex "java/util/TreeMap$Entry" "parent" "Ljava/util/TreeMap$Entry;" (.ref pe)) (F2 : Fld Z h0 pe "java/util/TreeMap$Entry" "right" "Ljava/util/TreeMap$Entry;" pv) :
    Does l Z n0 ⟨"java/util/TreeMap", "successor", "(Ljava/util/TreeMap$Entry;)Ljava/util/TreeMap$Entry;"⟩ jdk_2729_method_74_code 3 (some (.object "java/util/TreeMap$Entry")) [] { frames := 0, cells := 0, slots := 0, locals := 0 } #[(.ref ex)] h0 (fun v h => v = some (.ref pe) ∧ h0 = h) := by
  refine Does.start (plainFor_of_name pn_2) ?_
  intro p e s m below meth c T X
  replace X : Sd _ _ _ _ _ "java/util/TreeMap" "successor" _ _ _ _ _ _ _ _ _ _ _ _ _ _ _ _ := X
  refine Wp.cast (g' := mkF m 0 #[.val (.ref ex), .unset, .unset] []) (by first | (simp [entryFrame, mkF, argsToLocals, Value.category, maxLocals]; done) | rfl) ?_
  refine w_aloadN X k2729_74_0 rfl (rfl) ?_
  refine w_ifnonnullT X k2729_74_1 ?_
  refine w_aloadN X k2729_74_6 rfl (rfl) ?_
  refine w_getF X k2729_74_7 (host := "") (Or.inl (wd_150 hw)) Via.refl F0 (fun T X => ?_)
  refine w_ifnullT X k2729_74_10 ?_
  refine w_aloadN X k2729_74_35 rfl (rfl) ?_
  refine w_getF X k2729_74_36 (host := "") (Or.inl (wd_163 hw)) Via.refl F1 (fun T X => ?_)
  refine w_astoreN X #[.val (.ref ex), .val (.ref pe), .unset] k2729_74_39 (rfl) rfl ?_
  refine w_aloadN X k2729_74_40 rfl (rfl) ?_
  refine w_astoreN X #[.val (.ref ex), .val (.ref pe), .val (.ref ex)] k2729_74_41 (rfl) rfl ?_
  refine w_aloadN X k2729_74_42 rfl (rfl) ?_
  refine w_ifnullF X k2729_74_43 ?_
  refine w_aloadN X k2729_74_46 rfl (rfl) ?_
  refine w_aloadN X k2729_74_47 rfl (rfl) ?_
  refine w_getF X k2729_74_48 (host := "") (Or.inl (wd_150 hw)) Via.refl F2 (fun T X => ?_)
  refine w_acmpne X (rfl) (hpv) k2729_74_51 (fun _ => ?_) (fun hc => absurd hc hne)
  refine w_aloadN X k2729_74_64 rfl (rfl) ?_
  exact w_retR X rfl (rfl) rfl k2729_74_65 ⟨rfl, rfl⟩ (by decide) (by decide)
theorem m_suC (hw : own_hw a0 Z) {h0 : Heap} {ex ey : Addr} (F0 : Fld Z h0 ex "java/util/TreeMap$Entry" "right" "Ljava/util/TreeMap$Entry;" (.ref ey)) (F1 : Fld Z h0 ey "java/util/TreeMap$Entry" "left" "Ljava/util/TreeMap$Entry;" .null) :
    Does l Z n0 ⟨"java/util/TreeMap", "successor", "(Ljava/util/TreeMap$Entry;)Ljava/util/TreeMap$Entry;"⟩ jdk_2729_method_74_code 3 (some (.object "java/util/TreeMap$Entry")) [] { frames := 0, cells := 0, slots := 0, locals := 0 } #[(.ref ex)] h0 (fun v h => v = some (.ref ey) ∧ h0 = h) := by
  refine Does.start (plainFor_of_name pn_2) ?_
  intro p e s m below meth c T X
  replace X : Sd _ _ _ _ _ "java/util/TreeMap" "successor" _ _ _ _ _ _ _ _ _ _ _ _ _ _ _ _ := X
  refine Wp.cast (g' := mkF m 0 #[.val (.ref ex), .unset, .unset] []) (by first | (simp [entryFrame, mkF, argsToLocals, Value.category, maxLocals]; done) | rfl) ?_
  refine w_aloadN X k2729_74_0 rfl (rfl) ?_
  refine w_ifnonnullT X k2729_74_1 ?_
  refine w_aloadN X k2729_74_6 rfl (rfl) ?_
  refine w_getF X k2729_74_7 (host := "") (Or.inl (wd_150 hw)) Via.refl F0 (fun T X => ?_)
  refine w_ifnullF X k2729_74_10 ?_
  refine w_aloadN X k2729_74_13 rfl (rfl) ?_
  refine w_getF X k2729_74_14 (host := "") (Or.inl (wd_150 hw)) Via.refl F0 (fun T X => ?_)
  refine w_astoreN X #[.val (.ref ex), .val (.ref ey), .unset] k2729_74_17 (rfl) rfl ?_
  refine w_aloadN X k2729_74_18 rfl (rfl) ?_
  refine w_getF X k2729_74_19 (host := "") (Or.inl (wd_219 hw)) Via.refl F1 (fun T X => ?_)
  refine w_ifnullT X k2729_74_22 ?_
  refine w_aloadN X k2729_74_33 rfl (rfl) ?_
  exact w_retR X rfl (rfl) rfl k2729_74_34 ⟨rfl, rfl⟩ (by decide) (by decide)
theorem m_suD (hw : own_hw a0 Z) {h0 : Heap} {ex pe : Addr} (F0 : Fld Z h0 ex "java/util/TreeMap$Entry" "right" "Ljava/util/TreeMap$Entry;" .null) (F1 : Fld Z h0 ex "java/util/TreeMap$Entry" "parent" "Ljava/util/TreeMap$Entry;" (.ref pe)) (F2 : Fld Z h0 pe "java/util/TreeMap$Entry" "right" "Ljava/util/TreeMap$Entry;" (.ref ex)) (F3 : Fld Z h0 pe "java/util/TreeMap$Entry" "parent" "Ljava/util/TreeMap$Entry;" .null) :
    Does l Z n0 ⟨"java/util/TreeMap", "successor", "(Ljava/util/TreeMap$Entry;)Ljava/util/TreeMap$Entry;"⟩ jdk_2729_method_74_code 3 (some (.object "java/util/TreeMap$Entry")) [] { frames := 0, cells := 0, slots := 0, locals := 0 } #[(.ref ex)] h0 (fun v h => v = some .null ∧ h0 = h) := by
  refine Does.start (plainFor_of_name pn_2) ?_
  intro p e s m below meth c T X
  replace X : Sd _ _ _ _ _ "java/util/TreeMap" "successor" _ _ _ _ _ _ _ _ _ _ _ _ _ _ _ _ := X
  refine Wp.cast (g' := mkF m 0 #[.val (.ref ex), .unset, .unset] []) (by first | (simp [entryFrame, mkF, argsToLocals, Value.category, maxLocals]; done) | rfl) ?_
  refine w_aloadN X k2729_74_0 rfl (rfl) ?_
  refine w_ifnonnullT X k2729_74_1 ?_
  refine w_aloadN X k2729_74_6 rfl (rfl) ?_
  refine w_getF X k2729_74_7 (host := "") (Or.inl (wd_150 hw)) Via.refl F0 (fun T X => ?_)
  refine w_ifnullT X k2729_74_10 ?_
  refine w_aloadN X k2729_74_35 rfl (rfl) ?_
  refine w_getF X k2729_74_36 (host := "") (Or.inl (wd_163 hw)) Via.refl F1 (fun T X => ?_)
  refine w_astoreN X #[.val (.ref ex), .val (.ref pe), .unset] k2729_74_39 (rfl) rfl ?_
  refine w_aloadN X k2729_74_40 rfl (rfl) ?_
  refine w_astoreN X #[.val (.ref ex), .val (.ref pe), .val (.ref ex)] k2729_74_41 (rfl) rfl ?_
  refine w_aloadN X k2729_74_42 rfl (rfl) ?_
  refine w_ifnullF X k2729_74_43 ?_
  refine w_aloadN X k2729_74_46 rfl (rfl) ?_
  refine w_aloadN X k2729_74_47 rfl (rfl) ?_
  refine w_getF X k2729_74_48 (host := "") (Or.inl (wd_150 hw)) Via.refl F2 (fun T X => ?_)
  refine w_acmpne X (rfl) (rfl) k2729_74_51 (fun hc => absurd rfl hc) (fun _ => ?_)
  refine w_aloadN X k2729_74_54 rfl (rfl) ?_
  refine w_astoreN X #[.val (.ref ex), .val (.ref pe), .val (.ref pe)] k2729_74_55 (rfl) rfl ?_
  refine w_aloadN X k2729_74_56 rfl (rfl) ?_
  refine w_getF X k2729_74_57 (host := "") (Or.inl (wd_163 hw)) Via.refl F3 (fun T X => ?_)
  refine w_astoreN X #[.val (.ref ex), .val .null, .val (.ref pe)] k2729_74_60 (rfl) rfl ?_
  refine w_goto X k2729_74_61 ?_
  refine w_aloadN X k2729_74_42 rfl (rfl) ?_
  refine w_ifnullT X k2729_74_43 ?_
  refine w_aloadN X k2729_74_64 rfl (rfl) ?_
  exact w_retR X rfl (rfl) rfl k2729_74_65 ⟨rfl, rfl⟩ (by decide) (by decide)
theorem m_nen (hw : own_hw a0 Z) {h0 : Heap} {it tm ex : Addr} {mc : Int32} {lr : Value} (I0 : own_I Z n0 h0 it tm mc lr (.ref ex)) (Fm : Fld Z h0 tm "java/util/TreeMap" "modCount" "I" (.int mc)) (D : Does l Z n0 ⟨"java/util/TreeMap", "successor", "(Ljava/util/TreeMap$Entry;)Ljava/util/TreeMap$Entry;"⟩ jdk_2729_method_74_code 3 (some (.object "java/util/TreeMap$Entry")) [] { frames := 0, cells := 0, slots := 0, locals := 0 } #[(.ref ex)] h0 (fun v h => v = some .null ∧ h0 = h)) :
    Does l Z n0 ⟨"java/util/TreeMap$PrivateEntryIterator", "nextEntry", "()Ljava/util/TreeMap$Entry;"⟩ jdk_2750_method_3_code 2 (some (.object "java/util/TreeMap$Entry")) [] { frames := 1, cells := 0, slots := 0, locals := 15 } #[(.ref it)] h0 (fun v h => v = some (.ref ex) ∧ own_I Z n0 h it tm mc (.ref ex) .null ∧ Keep h0 h [it]) := by
  refine Does.start (plainFor_of_name pn_9) ?_
  intro p e s m below meth c T X
  replace X : Sd _ _ _ _ _ "java/util/TreeMap$PrivateEntryIterator" "nextEntry" _ _ _ _ _ _ _ _ _ _ _ _ _ _ _ _ := X
  refine Wp.cast (g' := mkF m 0 #[.val (.ref it), .unset] []) (by first | (simp [entryFrame, mkF, argsToLocals, Value.category, maxLocals]; done) | rfl) ?_
  refine w_aloadN X k2750_3_0 rfl (rfl) ?_
  refine w_getF X k2750_3_1 (host := "") (Or.inl (wd_239 hw)) Via.refl I0.2.2.2.2.2 (fun T X => ?_)
  refine w_astoreN X #[.val (.ref it), .val (.ref ex)] k2750_3_4 (rfl) rfl ?_
  refine w_aloadN X k2750_3_5 rfl (rfl) ?_
  refine w_ifnonnullT X k2750_3_6 ?_
  refine w_aloadN X k2750_3_17 rfl (rfl) ?_
  refine w_getF X k2750_3_18 (host := "") (Or.inl (wd_231 hw)) Via.refl I0.2.2.1 (fun T X => ?_)
  refine w_getFR X k2750_3_21 (wd_234 hw) Fm ?_
  refine w_aloadN X k2750_3_24 rfl (rfl) ?_
  refine w_getF X k2750_3_25 (host := "") (Or.inl (wd_235 hw)) Via.refl I0.2.2.2.1 (fun T X => ?_)
  refine w_icmpeq X k2750_3_28 (fun _ => ?_) (fun hc => absurd rfl hc)
  refine w_aloadN X k2750_3_39 rfl (rfl) ?_
  refine w_aloadN X k2750_3_40 rfl (rfl) ?_
  refine w_callS X k2750_3_41 (wd_269 hw) (wd_270 hw) (wd_25 hw) (wd_271 hw) (by decide) (argsL := [(.ref ex)]) (S := [(.ref it)]) D pd_5 rfl rfl rfl (by decide) (leR rfl) (by decide) (by decide) (fun T h1 v1 L1 X q1 => ?_)
  obtain ⟨rfl, rfl⟩ := q1
  show Wp _ _ _ _ (T.setTop (mkF _ _ _ [.null, (.ref it)]))
  refine w_putF X k2750_3_44 (host := "") (Or.inl (wd_239 hw)) Via.refl I0.2.2.2.2.2 I0.2.1 (Or.inl (wd_240 hw)) (wd_212 hw) (ty := (.object "java/util/TreeMap$Entry")) (by decide) rfl rfl I0.1 (fun T h2 X W2 => ?_)
  have f1 := I0.2.2.2.2.2.same W2
  have K2 : Keep h0 h2 [it] := (Keep.refl h0 [it]).wr W2 (Or.inl (List.mem_of_getElem? (i := 0) rfl))
  refine w_aloadN X k2750_3_47 rfl (rfl) ?_
  refine w_aloadN X k2750_3_48 rfl (rfl) ?_
  have f3 := (I0.2.1.wr W2)
  have f4 := (I0.2.2.2.2.1.other W2 (Or.inr (slot_ne (Or.inl (wd_238 hw)) (Or.inl (wd_240 hw)) (by decide) (t := (.object "java/util/TreeMap$Entry")) (t' := (.object "java/util/TreeMap$Entry")) (by decide) (by decide))))
  refine w_putF X k2750_3_49 (host := "") (Or.inl (wd_237 hw)) Via.refl f4 f3 (Or.inl (wd_238 hw)) (wd_212 hw) (ty := (.object "java/util/TreeMap$Entry")) (by decide) rfl rfl I0.1 (fun T h3 X W3 => ?_)
  have f5 := f4.same W3
  have K6 : Keep h0 h3 [it] := K2.wr W3 (Or.inl (List.mem_of_getElem? (i := 0) rfl))
  refine w_aloadN X k2750_3_52 rfl (rfl) ?_
  have f7 := (f3.wr W3)
  have f8 := ((I0.2.2.1.other W2 (Or.inr (slot_ne (Or.inr (wd_232 hw)) (Or.inl (wd_240 hw)) (by decide) (t := (.object "java/util/TreeMap")) (t' := (.object "java/util/TreeMap$Entry")) (by decide) (by decide)))).other W3 (Or.inr (slot_ne (Or.inr (wd_232 hw)) (Or.inl (wd_238 hw)) (by decide) (t := (.object "java/util/TreeMap")) (t' := (.object "java/util/TreeMap$Entry")) (by decide) (by decide))))
  have f9 := ((I0.2.2.2.1.other W2 (Or.inr (slot_ne (Or.inl (wd_236 hw)) (Or.inl (wd_240 hw)) (by decide) (t := .int) (t' := (.object "java/util/TreeMap$Entry")) (by decide) (by decide)))).other W3 (Or.inr (slot_ne (Or.inl (wd_236 hw)) (Or.inl (wd_238 hw)) (by decide) (t := .int) (t' := (.object "java/util/TreeMap$Entry")) (by decide) (by decide))))
  have f10 := (f1.other W3 (Or.inr (slot_ne (Or.inl (wd_240 hw)) (Or.inl (wd_238 hw)) (by decide) (t := (.object "java/util/TreeMap$Entry")) (t' := (.object "java/util/TreeMap$Entry")) (by decide) (by decide))))
  exact w_retR X rfl (rfl) rfl k2750_3_53 ⟨rfl, ⟨I0.1, f7, f8, f9, f5, f10⟩, K6⟩ (by decide) (by decide)
theorem m_nxmn (hw : own_hw a0 Z) {h0 : Heap} {it tm ex : Addr} {mc : Int32} {lr : Value} (I0 : own_I Z n0 h0 it tm mc lr (.ref ex)) (Fm : Fld Z h0 tm "java/util/TreeMap" "modCount" "I" (.int mc)) (D : Does l Z n0 ⟨"java/util/TreeMap", "successor", "(Ljava/util/TreeMap$Entry;)Ljava/util/TreeMap$Entry;"⟩ jdk_2729_method_74_code 3 (some (.object "java/util/TreeMap$Entry")) [] { frames := 0, cells := 0, slots := 0, locals := 0 } #[(.ref ex)] h0 (fun v h => v = some .null ∧ h0 = h)) :
    Does l Z n0 ⟨"java/util/TreeMap$EntryIterator", "next", "()Ljava/util/Map$Entry;"⟩ jdk_2737_method_2_code 1 (some (.object "java/util/Map$Entry")) [] { frames := 2, cells := 0, slots := 0, locals := 28 } #[(.ref it)] h0 (fun v h => v = some (.ref ex) ∧ own_I Z n0 h it tm mc (.ref ex) .null ∧ Keep h0 h [it]) := by
  refine Does.start (plainFor_of_name pn_10) ?_
  intro p e s m below meth c T X
  replace X : Sd _ _ _ _ _ "java/util/TreeMap$EntryIterator" "next" _ _ _ _ _ _ _ _ _ _ _ _ _ _ _ _ := X
  refine Wp.cast (g' := mkF m 0 #[.val (.ref it)] []) (by first | (simp [entryFrame, mkF, argsToLocals, Value.category, maxLocals]; done) | rfl) ?_
  refine w_aloadN X k2737_2_0 rfl (rfl) ?_
  refine w_callU X k2737_2_1 (wd_263 hw) (wd_264 hw) (wd_265 hw) (by decide) (wd_267 hw) (wd_266 hw) (wd_229 hw) (wd_268 hw) I0.2.1 (argsL := []) (S := []) (m_nen hw I0 Fm D) pd_18 rfl rfl rfl (by decide) (leR rfl) (by decide) (by decide) (fun T h1 v1 L1 X q1 => ?_)
  obtain ⟨rfl, I_1, Kc1⟩ := q1
  have K1 : Keep h0 h1 [it] := (Keep.refl h0 [it]).trans Kc1 (fun x hx => by cases List.mem_singleton.mp hx; exact (Or.inl (List.mem_of_getElem? (i := 0) rfl)))
  show Wp _ _ _ _ (T.setTop (mkF _ _ _ [(.ref ex)]))
  exact w_retR X rfl (rfl) rfl k2737_2_4 ⟨rfl, ⟨I_1.1, I_1.2.1, I_1.2.2.1, I_1.2.2.2.1, I_1.2.2.2.2.1, I_1.2.2.2.2.2⟩, K1⟩ (by decide) (by decide)
theorem m_nxon (hw : own_hw a0 Z) {h0 : Heap} {it tm ex : Addr} {mc : Int32} {lr : Value} (I0 : own_I Z n0 h0 it tm mc lr (.ref ex)) (Fm : Fld Z h0 tm "java/util/TreeMap" "modCount" "I" (.int mc)) (D : Does l Z n0 ⟨"java/util/TreeMap", "successor", "(Ljava/util/TreeMap$Entry;)Ljava/util/TreeMap$Entry;"⟩ jdk_2729_method_74_code 3 (some (.object "java/util/TreeMap$Entry")) [] { frames := 0, cells := 0, slots := 0, locals := 0 } #[(.ref ex)] h0 (fun v h => v = some .null ∧ h0 = h)) :
    Does l Z n0 ⟨"java/util/TreeMap$EntryIterator", "next", "()Ljava/lang/Object;"⟩ jdk_2737_method_3_code 1 (some (.object "java/lang/Object")) [] { frames := 3, cells := 0, slots := 0, locals := 40 } #[(.ref it)] h0 (fun v h => v = some (.ref ex) ∧ own_I Z n0 h it tm mc (.ref ex) .null ∧ Keep h0 h [it]) := by
  refine Does.start (plainFor_of_name pn_10) ?_
  intro p e s m below meth c T X
  replace X : Sd _ _ _ _ _ "java/util/TreeMap$EntryIterator" "next" _ _ _ _ _ _ _ _ _ _ _ _ _ _ _ _ := X
  refine Wp.cast (g' := mkF m 0 #[.val (.ref it)] []) (by first | (simp [entryFrame, mkF, argsToLocals, Value.category, maxLocals]; done) | rfl) ?_
  refine w_aloadN X k2737_3_0 rfl (rfl) ?_
  refine w_callV X k2737_3_1 (wd_258 hw) (wd_259 hw) (notFace_of_selects (args := #[]) (mvT X.hZ (wd_261 hw))) (wd_261 hw) (wd_260 hw) (wd_213 hw) (wd_262 hw) (by decide) I0.2.1 (argsL := []) (S := []) (m_nxmn hw I0 Fm D) pd_19 rfl rfl rfl (by decide) (leR rfl) (by decide) (by decide) (fun T h1 v1 L1 X q1 => ?_)
  obtain ⟨rfl, I_1, Kc1⟩ := q1
  have K1 : Keep h0 h1 [it] := (Keep.refl h0 [it]).trans Kc1 (fun x hx => by cases List.mem_singleton.mp hx; exact (Or.inl (List.mem_of_getElem? (i := 0) rfl)))
  show Wp _ _ _ _ (T.setTop (mkF _ _ _ [(.ref ex)]))
  exact w_retR X rfl (rfl) rfl k2737_3_4 ⟨rfl, ⟨I_1.1, I_1.2.1, I_1.2.2.1, I_1.2.2.2.1, I_1.2.2.2.2.1, I_1.2.2.2.2.2⟩, K1⟩ (by decide) (by decide)
theorem m_ner (hw : own_hw a0 Z) {h0 : Heap} {it tm ex ey : Addr} {mc : Int32} {lr : Value} (I0 : own_I Z n0 h0 it tm mc lr (.ref ex)) (Fm : Fld Z h0 tm "java/util/TreeMap" "modCount" "I" (.int mc)) (D : Does l Z n0 ⟨"java/util/TreeMap", "successor", "(Ljava/util/TreeMap$Entry;)Ljava/util/TreeMap$Entry;"⟩ jdk_2729_method_74_code 3 (some (.object "java/util/TreeMap$Entry")) [] { frames := 0, cells := 0, slots := 0, locals := 0 } #[(.ref ex)] h0 (fun v h => v = some (.ref ey) ∧ h0 = h)) :
    Does l Z n0 ⟨"java/util/TreeMap$PrivateEntryIterator", "nextEntry", "()Ljava/util/TreeMap$Entry;"⟩ jdk_2750_method_3_code 2 (some (.object "java/util/TreeMap$Entry")) [] { frames := 1, cells := 0, slots := 0, locals := 15 } #[(.ref it)] h0 (fun v h => v = some (.ref ex) ∧ own_I Z n0 h it tm mc (.ref ex) (.ref ey) ∧ Keep h0 h [it]) := by
  refine Does.start (plainFor_of_name pn_9) ?_
  intro p e s m below meth c T X
  replace X : Sd _ _ _ _ _ "java/util/TreeMap$PrivateEntryIterator" "nextEntry" _ _ _ _ _ _ _ _ _ _ _ _ _ _ _ _ := X
  refine Wp.cast (g' := mkF m 0 #[.val (.ref it), .unset] []) (by first | (simp [entryFrame, mkF, argsToLocals, Value.category, maxLocals]; done) | rfl) ?_
  refine w_aloadN X k2750_3_0 rfl (rfl) ?_
  refine w_getF X k2750_3_1 (host := "") (Or.inl (wd_239 hw)) Via.refl I0.2.2.2.2.2 (fun T X => ?_)
  refine w_astoreN X #[.val (.ref it), .val (.ref ex)] k2750_3_4 (rfl) rfl ?_
  refine w_aloadN X k2750_3_5 rfl (rfl) ?_
  refine w_ifnonnullT X k2750_3_6 ?_
  refine w_aloadN X k2750_3_17 rfl (rfl) ?_
  refine w_getF X k2750_3_18 (host := "") (Or.inl (wd_231 hw)) Via.refl I0.2.2.1 (fun T X => ?_)
  refine w_getFR X k2750_3_21 (wd_234 hw) Fm ?_
  refine w_aloadN X k2750_3_24 rfl (rfl) ?_
  refine w_getF X k2750_3_25 (host := "") (Or.inl (wd_235 hw)) Via.refl I0.2.2.2.1 (fun T X => ?_)
  refine w_icmpeq X k2750_3_28 (fun _ => ?_) (fun hc => absurd rfl hc)
  refine w_aloadN X k2750_3_39 rfl (rfl) ?_
  refine w_aloadN X k2750_3_40 rfl (rfl) ?_
  refine w_callS X k2750_3_41 (wd_269 hw) (wd_270 hw) (wd_25 hw) (wd_271 hw) (by decide) (argsL := [(.ref ex)]) (S := [(.ref it)]) D pd_5 rfl rfl rfl (by decide) (leR rfl) (by decide) (by decide) (fun T h1 v1 L1 X q1 => ?_)
  obtain ⟨rfl, rfl⟩ := q1
  show Wp _ _ _ _ (T.setTop (mkF _ _ _ [(.ref ey), (.ref it)]))
  refine w_putF X k2750_3_44 (host := "") (Or.inl (wd_239 hw)) Via.refl I0.2.2.2.2.2 I0.2.1 (Or.inl (wd_240 hw)) (wd_212 hw) (ty := (.object "java/util/TreeMap$Entry")) (by decide) rfl rfl I0.1 (fun T h2 X W2 => ?_)
  have f1 := I0.2.2.2.2.2.same W2
  have K2 : Keep h0 h2 [it] := (Keep.refl h0 [it]).wr W2 (Or.inl (List.mem_of_getElem? (i := 0) rfl))
  refine w_aloadN X k2750_3_47 rfl (rfl) ?_
  refine w_aloadN X k2750_3_48 rfl (rfl) ?_
  have f3 := (I0.2.1.wr W2)
  have f4 := (I0.2.2.2.2.1.other W2 (Or.inr (slot_ne (Or.inl (wd_238 hw)) (Or.inl (wd_240 hw)) (by decide) (t := (.object "java/util/TreeMap$Entry")) (t' := (.object "java/util/TreeMap$Entry")) (by decide) (by decide))))
  refine w_putF X k2750_3_49 (host := "") (Or.inl (wd_237 hw)) Via.refl f4 f3 (Or.inl (wd_238 hw)) (wd_212 hw) (ty := (.object "java/util/TreeMap$Entry")) (by decide) rfl rfl I0.1 (fun T h3 X W3 => ?_)
  have f5 := f4.same W3
  have K6 : Keep h0 h3 [it] := K2.wr W3 (Or.inl (List.mem_of_getElem? (i := 0) rfl))
  refine w_aloadN X k2750_3_52 rfl (rfl) ?_
  have f7 := (f3.wr W3)
  have f8 := ((I0.2.2.1.other W2 (Or.inr (slot_ne (Or.inr (wd_232 hw)) (Or.inl (wd_240 hw)) (by decide) (t := (.object "java/util/TreeMap")) (t' := (.object "java/util/TreeMap$Entry")) (by decide) (by decide)))).other W3 (Or.inr (slot_ne (Or.inr (wd_232 hw)) (Or.inl (wd_238 hw)) (by decide) (t := (.object "java/util/TreeMap")) (t' := (.object "java/util/TreeMap$Entry")) (by decide) (by decide))))
  have f9 := ((I0.2.2.2.1.other W2 (Or.inr (slot_ne (Or.inl (wd_236 hw)) (Or.inl (wd_240 hw)) (by decide) (t := .int) (t' := (.object "java/util/TreeMap$Entry")) (by decide) (by decide)))).other W3 (Or.inr (slot_ne (Or.inl (wd_236 hw)) (Or.inl (wd_238 hw)) (by decide) (t := .int) (t' := (.object "java/util/TreeMap$Entry")) (by decide) (by decide))))
  have f10 := (f1.other W3 (Or.inr (slot_ne (Or.inl (wd_240 hw)) (Or.inl (wd_238 hw)) (by decide) (t := (.object "java/util/TreeMap$Entry")) (t' := (.object "java/util/TreeMap$Entry")) (by decide) (by decide))))
  exact w_retR X rfl (rfl) rfl k2750_3_53 ⟨rfl, ⟨I0.1, f7, f8, f9, f5, f10⟩, K6⟩ (by decide) (by decide)
theorem m_nxmr (hw : own_hw a0 Z) {h0 : Heap} {it tm ex ey : Addr} {mc : Int32} {lr : Value} (I0 : own_I Z n0 h0 it tm mc lr (.ref ex)) (Fm : Fld Z h0 tm "java/util/TreeMap" "modCount" "I" (.int mc)) (D : Does l Z n0 ⟨"java/util/TreeMap", "successor", "(Ljava/util/TreeMap$Entry;)Ljava/util/TreeMap$Entry;"⟩ jdk_2729_method_74_code 3 (some (.object "java/util/TreeMap$Entry")) [] { frames := 0, cells := 0, slots := 0, locals := 0 } #[(.ref ex)] h0 (fun v h => v = some (.ref ey) ∧ h0 = h)) :
    Does l Z n0 ⟨"java/util/TreeMap$EntryIterator", "next", "()Ljava/util/Map$Entry;"⟩ jdk_2737_method_2_code 1 (some (.object "java/util/Map$Entry")) [] { frames := 2, cells := 0, slots := 0, locals := 28 } #[(.ref it)] h0 (fun v h => v = some (.ref ex) ∧ own_I Z n0 h it tm mc (.ref ex) (.ref ey) ∧ Keep h0 h [it]) := by
  refine Does.start (plainFor_of_name pn_10) ?_
  intro p e s m below meth c T X
  replace X : Sd _ _ _ _ _ "java/util/TreeMap$EntryIterator" "next" _ _ _ _ _ _ _ _ _ _ _ _ _ _ _ _ := X
  refine Wp.cast (g' := mkF m 0 #[.val (.ref it)] []) (by first | (simp [entryFrame, mkF, argsToLocals, Value.category, maxLocals]; done) | rfl) ?_
  refine w_aloadN X k2737_2_0 rfl (rfl) ?_
  refine w_callU X k2737_2_1 (wd_263 hw) (wd_264 hw) (wd_265 hw) (by decide) (wd_267 hw) (wd_266 hw) (wd_229 hw) (wd_268 hw) I0.2.1 (argsL := []) (S := []) (m_ner hw I0 Fm D) pd_18 rfl rfl rfl (by decide) (leR rfl) (by decide) (by decide) (fun T h1 v1 L1 X q1 => ?_)
  obtain ⟨rfl, I_1, Kc1⟩ := q1
  have K1 : Keep h0 h1 [it] := (Keep.refl h0 [it]).trans Kc1 (fun x hx => by cases List.mem_singleton.mp hx; exact (Or.inl (List.mem_of_getElem? (i := 0) rfl)))
  show Wp _ _ _ _ (T.setTop (mkF _ _ _ [(.ref ex)]))
  exact w_retR X rfl (rfl) rfl k2737_2_4 ⟨rfl, ⟨I_1.1, I_1.2.1, I_1.2.2.1, I_1.2.2.2.1, I_1.2.2.2.2.1, I_1.2.2.2.2.2⟩, K1⟩ (by decide) (by decide)
theorem m_nxor (hw : own_hw a0 Z) {h0 : Heap} {it tm ex ey : Addr} {mc : Int32} {lr : Value} (I0 : own_I Z n0 h0 it tm mc lr (.ref ex)) (Fm : Fld Z h0 tm "java/util/TreeMap" "modCount" "I" (.int mc)) (D : Does l Z n0 ⟨"java/util/TreeMap", "successor", "(Ljava/util/TreeMap$Entry;)Ljava/util/TreeMap$Entry;"⟩ jdk_2729_method_74_code 3 (some (.object "java/util/TreeMap$Entry")) [] { frames := 0, cells := 0, slots := 0, locals := 0 } #[(.ref ex)] h0 (fun v h => v = some (.ref ey) ∧ h0 = h)) :
    Does l Z n0 ⟨"java/util/TreeMap$EntryIterator", "next", "()Ljava/lang/Object;"⟩ jdk_2737_method_3_code 1 (some (.object "java/lang/Object")) [] { frames := 3, cells := 0, slots := 0, locals := 40 } #[(.ref it)] h0 (fun v h => v = some (.ref ex) ∧ own_I Z n0 h it tm mc (.ref ex) (.ref ey) ∧ Keep h0 h [it]) := by
  refine Does.start (plainFor_of_name pn_10) ?_
  intro p e s m below meth c T X
  replace X : Sd _ _ _ _ _ "java/util/TreeMap$EntryIterator" "next" _ _ _ _ _ _ _ _ _ _ _ _ _ _ _ _ := X
  refine Wp.cast (g' := mkF m 0 #[.val (.ref it)] []) (by first | (simp [entryFrame, mkF, argsToLocals, Value.category, maxLocals]; done) | rfl) ?_
  refine w_aloadN X k2737_3_0 rfl (rfl) ?_
  refine w_callV X k2737_3_1 (wd_258 hw) (wd_259 hw) (notFace_of_selects (args := #[]) (mvT X.hZ (wd_261 hw))) (wd_261 hw) (wd_260 hw) (wd_213 hw) (wd_262 hw) (by decide) I0.2.1 (argsL := []) (S := []) (m_nxmr hw I0 Fm D) pd_19 rfl rfl rfl (by decide) (leR rfl) (by decide) (by decide) (fun T h1 v1 L1 X q1 => ?_)
  obtain ⟨rfl, I_1, Kc1⟩ := q1
  have K1 : Keep h0 h1 [it] := (Keep.refl h0 [it]).trans Kc1 (fun x hx => by cases List.mem_singleton.mp hx; exact (Or.inl (List.mem_of_getElem? (i := 0) rfl)))
  show Wp _ _ _ _ (T.setTop (mkF _ _ _ [(.ref ex)]))
  exact w_retR X rfl (rfl) rfl k2737_3_4 ⟨rfl, ⟨I_1.1, I_1.2.1, I_1.2.2.1, I_1.2.2.2.1, I_1.2.2.2.2.1, I_1.2.2.2.2.2⟩, K1⟩ (by decide) (by decide)
theorem m_getValue (hw : own_hw a0 Z) {h0 : Heap} {ex vl : Addr} (F : Fld Z h0 ex "java/util/TreeMap$Entry" "value" "Ljava/lang/Object;" (.ref vl)) :
    Does l Z n0 ⟨"java/util/TreeMap$Entry", "getValue", "()Ljava/lang/Object;"⟩ jdk_2736_method_3_code 1 (some (.object "java/lang/Object")) [] { frames := 0, cells := 0, slots := 0, locals := 0 } #[(.ref ex)] h0 (fun v h => v = some (.ref vl) ∧ h0 = h) := by
  refine Does.start (plainFor_of_name pn_8) ?_
  intro p e s m below meth c T X
  replace X : Sd _ _ _ _ _ "java/util/TreeMap$Entry" "getValue" _ _ _ _ _ _ _ _ _ _ _ _ _ _ _ _ := X
  refine Wp.cast (g' := mkF m 0 #[.val (.ref ex)] []) (by first | (simp [entryFrame, mkF, argsToLocals, Value.category, maxLocals]; done) | rfl) ?_
  refine w_aloadN X k2736_3_0 rfl (rfl) ?_
  refine w_getF X k2736_3_1 (host := "") (Or.inl (wd_116 hw)) Via.refl F (fun T X => ?_)
  exact w_retR X rfl (rfl) rfl k2736_3_4 ⟨rfl, rfl⟩ (by decide) (by decide)
theorem m_getKey (hw : own_hw a0 Z) {h0 : Heap} {ex vl : Addr} (F : Fld Z h0 ex "java/util/TreeMap$Entry" "key" "Ljava/lang/Object;" (.ref vl)) :
    Does l Z n0 ⟨"java/util/TreeMap$Entry", "getKey", "()Ljava/lang/Object;"⟩ jdk_2736_method_2_code 1 (some (.object "java/lang/Object")) [] { frames := 0, cells := 0, slots := 0, locals := 0 } #[(.ref ex)] h0 (fun v h => v = some (.ref vl) ∧ h0 = h) := by
  refine Does.start (plainFor_of_name pn_8) ?_
  intro p e s m below meth c T X
  replace X : Sd _ _ _ _ _ "java/util/TreeMap$Entry" "getKey" _ _ _ _ _ _ _ _ _ _ _ _ _ _ _ _ := X
  refine Wp.cast (g' := mkF m 0 #[.val (.ref ex)] []) (by first | (simp [entryFrame, mkF, argsToLocals, Value.category, maxLocals]; done) | rfl) ?_
  refine w_aloadN X k2736_2_0 rfl (rfl) ?_
  refine w_getF X k2736_2_1 (host := "") (Or.inl (wd_114 hw)) Via.refl F (fun T X => ?_)
  exact w_retR X rfl (rfl) rfl k2736_2_4 ⟨rfl, rfl⟩ (by decide) (by decide)
theorem m_esi (hw : own_hw a0 Z) {h0 : Heap} {es tm : Addr} (ges : n0 ≤ es) (Ees : Exa Z h0 es "java/util/TreeMap$EntrySet") (Fs : Fld Z h0 es "java/util/TreeMap$EntrySet" "this$0" "Ljava/util/TreeMap;" .null) :
    Does l Z n0 ⟨"java/util/TreeMap$EntrySet", "<init>", "(Ljava/util/TreeMap;)V"⟩ jdk_2738_method_1_code 2 none [] { frames := 3, cells := 0, slots := 0, locals := 36 } #[(.ref es), (.ref tm)] h0 (fun v h => v = none ∧ Exa Z h es "java/util/TreeMap$EntrySet" ∧ Fld Z h es "java/util/TreeMap$EntrySet" "this$0" "Ljava/util/TreeMap;" (.ref tm) ∧ Keep h0 h [es]) := by
  refine Does.start (plainFor_of_name pn_11) ?_
  intro p e s m below meth c T X
  replace X : Sd _ _ _ _ _ "java/util/TreeMap$EntrySet" "<init>" _ _ _ _ _ _ _ _ _ _ _ _ _ _ _ _ := X
  refine Wp.cast (g' := mkF m 0 #[.val (.ref es), .val (.ref tm)] []) (by first | (simp [entryFrame, mkF, argsToLocals, Value.category, maxLocals]; done) | rfl) ?_
  refine w_aloadN X k2738_1_0 rfl (rfl) ?_
  refine w_aloadN X k2738_1_1 rfl (rfl) ?_
  refine w_putF X k2738_1_2 (host := "") (Or.inl (wd_187 hw)) Via.refl Fs Ees (Or.inr ⟨(wd_188 hw), rfl, rfl⟩) (wd_181 hw) (ty := (.object "java/util/TreeMap")) (by decide) rfl rfl ges (fun T h1 X W1 => ?_)
  have f1 := Fs.same W1
  have K2 : Keep h0 h1 [es] := (Keep.refl h0 [es]).wr W1 (Or.inl (List.mem_of_getElem? (i := 0) rfl))
  refine w_aloadN X k2738_1_5 rfl (rfl) ?_
  refine w_callI X k2738_1_6 rfl (wd_189 hw) (wd_190 hw) (wd_193 hw) (wd_194 hw) (by decide) (argsL := []) (S := []) (m_as hw) pd_3 rfl rfl rfl (by decide) (leR rfl) (by decide) (by decide) (fun T h2 v2 L2 X q2 => ?_)
  obtain ⟨rfl, rfl⟩ := q2
  show Wp _ _ _ _ (T.setTop (mkF _ _ _ []))
  have f3 := (Ees.wr W1)
  exact w_retV X k2738_1_9 ⟨rfl, f3, f1, K2⟩ (by decide) (by decide)
theorem m_esn (hw : own_hw a0 Z) {h0 : Heap} {tm : Addr} {rv : Value} {sz mc : Int32} (M0 : own_M Z n0 h0 tm rv .null sz mc) :
    Does l Z n0 ⟨"java/util/TreeMap", "entrySet", "()Ljava/util/Set;"⟩ jdk_2729_method_53_code 2 (some (.object "java/util/Set")) [] { frames := 4, cells := 1, slots := 1, locals := 51 } #[(.ref tm)] h0 (fun v h => ∃ es, v = some (.ref es) ∧ own_M Z n0 h tm rv (.ref es) sz mc ∧ Exa Z h es "java/util/TreeMap$EntrySet" ∧ Fld Z h es "java/util/TreeMap$EntrySet" "this$0" "Ljava/util/TreeMap;" (.ref tm) ∧ Keep h0 h [tm]) := by
  refine Does.start (plainFor_of_name pn_2) ?_
  intro p e s m below meth c T X
  replace X : Sd _ _ _ _ _ "java/util/TreeMap" "entrySet" _ _ _ _ _ _ _ _ _ _ _ _ _ _ _ _ := X
  refine Wp.cast (g' := mkF m 0 #[.val (.ref tm), .unset] []) (by first | (simp [entryFrame, mkF, argsToLocals, Value.category, maxLocals]; done) | rfl) ?_
  refine w_aloadN X k2729_53_0 rfl (rfl) ?_
  refine w_getF X k2729_53_1 (host := "") (Or.inl (wd_178 hw)) Via.refl M0.2.2.2.2.2.2 (fun T X => ?_)
  refine w_astoreN X #[.val (.ref tm), .val .null] k2729_53_4 (rfl) rfl ?_
  refine w_aloadN X k2729_53_5 rfl (rfl) ?_
  refine w_ifnullT X k2729_53_6 ?_
  refine w_aloadN X k2729_53_13 rfl (rfl) ?_
  refine w_new X k2729_53_14 (wd_180 hw) (wd_181 hw) (wd_182 hw) (by decide) (by decide) (fun T h1 b1 g1 gn1 X E1 A1 D1 => ?_)
  have sz_b1 : h0.size ≤ b1 := Nat.le_trans (Keep.refl h0 [tm]).1 (Nat.le_of_eq g1.symm)
  have K1 : Keep h0 h1 [tm] := (Keep.refl h0 [tm]).ext E1
  refine w_dup X k2729_53_17 rfl ?_
  refine w_aloadN X k2729_53_18 rfl (rfl) ?_
  refine w_callI X k2729_53_19 rfl (wd_183 hw) (wd_184 hw) (wd_182 hw) (wd_186 hw) (by decide) (argsL := [(.ref tm)]) (S := [(.ref b1), (.ref tm)]) (m_esi hw gn1 A1 (show Fld Z h1 b1 "java/util/TreeMap$EntrySet" "this$0" "Ljava/util/TreeMap;" .null from D1 (Or.inr (wd_188 hw)) (ty := (.object "java/util/TreeMap")) (by decide))) pd_20 rfl rfl rfl (by decide) (leR rfl) (by decide) (by decide) (fun T h2 v2 L2 X q2 => ?_)
  obtain ⟨rfl, Ex2, Ft2, Kc2⟩ := q2
  have K2 : Keep h0 h2 [tm] := K1.trans Kc2 (fun x hx => by cases List.mem_singleton.mp hx; exact (Or.inr sz_b1))
  show Wp _ _ _ _ (T.setTop (mkF _ _ _ [(.ref b1), (.ref tm)]))
  refine w_dupX1 X k2729_53_22 rfl rfl ?_
  have f3 := ((M0.2.1.ext E1).keep Kc2)
  have f4 := ((M0.2.2.2.2.2.2.ext E1).keep Kc2 (ni1 (Exa.ne f3 Ex2 (by decide))))
  refine w_putF X k2729_53_23 (host := "") (Or.inl (wd_178 hw)) Via.refl f4 f3 (Or.inl (wd_179 hw)) (wd_24 hw) (ty := (.object "java/util/TreeMap$EntrySet")) (by decide) rfl rfl M0.1 (fun T h3 X W3 => ?_)
  have f5 := f4.same W3
  have K6 : Keep h0 h3 [tm] := K2.wr W3 (Or.inl (List.mem_of_getElem? (i := 0) rfl))
  have f7 := (f3.wr W3)
  have f8 := (Ex2.wr W3)
  have f9 := (((M0.2.2.1.ext E1).keep Kc2 (ni1 (Exa.ne f7 f8 (by decide)))).other W3 (Or.inr (slot_ne (Or.inl (wd_72 hw)) (Or.inl (wd_179 hw)) (by decide) (t := (.object "java/util/TreeMap$Entry")) (t' := (.object "java/util/TreeMap$EntrySet")) (by decide) (by decide))))
  have f10 := (((M0.2.2.2.1.ext E1).keep Kc2 (ni1 (Exa.ne f7 f8 (by decide)))).other W3 (Or.inr (slot_ne (Or.inl (wd_37 hw)) (Or.inl (wd_179 hw)) (by decide) (t := .int) (t' := (.object "java/util/TreeMap$EntrySet")) (by decide) (by decide))))
  have f11 := (((M0.2.2.2.2.1.ext E1).keep Kc2 (ni1 (Exa.ne f7 f8 (by decide)))).other W3 (Or.inr (slot_ne (Or.inl (wd_39 hw)) (Or.inl (wd_179 hw)) (by decide) (t := .int) (t' := (.object "java/util/TreeMap$EntrySet")) (by decide) (by decide))))
  have f12 := (((M0.2.2.2.2.2.1.ext E1).keep Kc2 (ni1 (Exa.ne f7 f8 (by decide)))).other W3 (Or.inr (slot_ne (Or.inr (wd_41 hw)) (Or.inl (wd_179 hw)) (by decide) (t := (.object "java/util/Comparator")) (t' := (.object "java/util/TreeMap$EntrySet")) (by decide) (by decide))))
  have f13 := (Ft2.other W3 (Or.inl (Exa.ne f8 f7 (by decide))))
  exact w_retR X rfl (rfl) rfl k2729_53_26 ⟨b1, rfl, ⟨M0.1, f7, f9, f10, f11, f12, f5⟩, f8, f13, K6⟩ (by decide) (by decide)
theorem m_esr (hw : own_hw a0 Z) {h0 : Heap} {tm e0 : Addr} {rv : Value} {sz mc : Int32} (M0 : own_M Z n0 h0 tm rv (.ref e0) sz mc) (Ee : Exa Z h0 e0 "java/util/TreeMap$EntrySet") (Fe : Fld Z h0 e0 "java/util/TreeMap$EntrySet" "this$0" "Ljava/util/TreeMap;" (.ref tm)) :
    Does l Z n0 ⟨"java/util/TreeMap", "entrySet", "()Ljava/util/Set;"⟩ jdk_2729_method_53_code 2 (some (.object "java/util/Set")) [] { frames := 4, cells := 1, slots := 1, locals := 51 } #[(.ref tm)] h0 (fun v h => ∃ es, v = some (.ref es) ∧ own_M Z n0 h tm rv (.ref es) sz mc ∧ Exa Z h es "java/util/TreeMap$EntrySet" ∧ Fld Z h es "java/util/TreeMap$EntrySet" "this$0" "Ljava/util/TreeMap;" (.ref tm) ∧ Keep h0 h [tm]) := by
  refine Does.start (plainFor_of_name pn_2) ?_
  intro p e s m below meth c T X
  replace X : Sd _ _ _ _ _ "java/util/TreeMap" "entrySet" _ _ _ _ _ _ _ _ _ _ _ _ _ _ _ _ := X
  refine Wp.cast (g' := mkF m 0 #[.val (.ref tm), .unset] []) (by first | (simp [entryFrame, mkF, argsToLocals, Value.category, maxLocals]; done) | rfl) ?_
  refine w_aloadN X k2729_53_0 rfl (rfl) ?_
  refine w_getF X k2729_53_1 (host := "") (Or.inl (wd_178 hw)) Via.refl M0.2.2.2.2.2.2 (fun T X => ?_)
  refine w_astoreN X #[.val (.ref tm), .val (.ref e0)] k2729_53_4 (rfl) rfl ?_
  refine w_aloadN X k2729_53_5 rfl (rfl) ?_
  refine w_ifnullF X k2729_53_6 ?_
  refine w_aloadN X k2729_53_9 rfl (rfl) ?_
  refine w_goto X k2729_53_10 ?_
  exact w_retR X rfl (rfl) rfl k2729_53_26 ⟨e0, rfl, ⟨M0.1, M0.2.1, M0.2.2.1, M0.2.2.2.1, M0.2.2.2.2.1, M0.2.2.2.2.2.1, M0.2.2.2.2.2.2⟩, Ee, Fe, (Keep.refl h0 [tm])⟩ (by decide) (by decide)
theorem m_es (hw : own_hw a0 Z) {h0 : Heap} {tm : Addr} {rv ev : Value} {sz mc : Int32} (M0 : own_M Z n0 h0 tm rv ev sz mc) (H : own_Es Z h0 tm ev) :
    Does l Z n0 ⟨"java/util/TreeMap", "entrySet", "()Ljava/util/Set;"⟩ jdk_2729_method_53_code 2 (some (.object "java/util/Set")) [] { frames := 4, cells := 1, slots := 1, locals := 51 } #[(.ref tm)] h0 (fun v h => ∃ es, v = some (.ref es) ∧ own_M Z n0 h tm rv (.ref es) sz mc ∧ Exa Z h es "java/util/TreeMap$EntrySet" ∧ Fld Z h es "java/util/TreeMap$EntrySet" "this$0" "Ljava/util/TreeMap;" (.ref tm) ∧ Keep h0 h [tm]) := by
  rcases H with rfl | ⟨e0, rfl, Ee, Fe⟩
  · exact m_esn hw M0
  · exact m_esr hw M0 Ee Fe
theorem m_mn (hw : own_hw a0 Z) {h0 : Heap} {x y : Int64}  :
    Does l Z n0 ⟨"java/lang/Math", "min", "(JJ)J"⟩ jdk_29_method_70_code 4 (some .long) [] { frames := 0, cells := 0, slots := 0, locals := 0 } #[(.long x), (.long y)] h0 (fun v h => v = some (.long (own_mn x y)) ∧ h0 = h) := by
  refine Does.start (Jvm.Free.JP.mathPlain rfl (by decide +kernel)) ?_
  intro p e s m below meth c T X
  replace X : Sd _ _ _ _ _ "java/lang/Math" "min" _ _ _ _ _ _ _ _ _ _ _ _ _ _ _ _ := X
  refine Wp.cast (g' := mkF m 0 #[.val (.long x), .second, .val (.long y), .second] []) (by first | (simp [entryFrame, mkF, argsToLocals, Value.category, maxLocals]; done) | rfl) ?_
  refine w_lloadN X k29_70_0 rfl ?_
  refine w_lloadN X k29_70_1 rfl ?_
  refine w_lgt X k29_70_2 k29_70_3 (fun (hc3 : y < x) => ?_) (fun (hc3 : ¬ y < x) => ?_)
  · refine w_lloadN X k29_70_10 rfl ?_
    exact w_retJ X k29_70_11 ⟨by rw [own_mn, if_pos hc3], rfl⟩ (by decide) (by decide)
  · refine w_lloadN X k29_70_6 rfl ?_
    refine w_goto X k29_70_7 ?_
    exact w_retJ X k29_70_11 ⟨by rw [own_mn, if_neg hc3], rfl⟩ (by decide) (by decide)
theorem m_mx (hw : own_hw a0 Z) {h0 : Heap} {x y r : Int64} (hr : own_mx x y = r) :
    Does l Z n0 ⟨"java/lang/Math", "max", "(JJ)J"⟩ jdk_29_method_66_code 4 (some .long) [] { frames := 0, cells := 0, slots := 0, locals := 0 } #[(.long x), (.long y)] h0 (fun v h => v = some (.long r) ∧ h0 = h) := by
  refine Does.start (Jvm.Free.JP.mathPlain rfl (by decide +kernel)) ?_
  intro p e s m below meth c T X
  replace X : Sd _ _ _ _ _ "java/lang/Math" "max" _ _ _ _ _ _ _ _ _ _ _ _ _ _ _ _ := X
  refine Wp.cast (g' := mkF m 0 #[.val (.long x), .second, .val (.long y), .second] []) (by first | (simp [entryFrame, mkF, argsToLocals, Value.category, maxLocals]; done) | rfl) ?_
  refine w_lloadN X k29_66_0 rfl ?_
  refine w_lloadN X k29_66_1 rfl ?_
  refine w_llt X k29_66_2 k29_66_3 (fun (hc3 : x < y) => ?_) (fun (hc3 : ¬ x < y) => ?_)
  · refine w_lloadN X k29_66_10 rfl ?_
    exact w_retJ X k29_66_11 ⟨by rw [← hr, own_mx, if_pos hc3], rfl⟩ (by decide) (by decide)
  · refine w_lloadN X k29_66_6 rfl ?_
    refine w_goto X k29_66_7 ?_
    exact w_retJ X k29_66_11 ⟨by rw [← hr, own_mx, if_neg hc3], rfl⟩ (by decide) (by decide)
theorem m_mi (hw : own_hw a0 Z) {h0 : Heap} {x : Int64}  :
    Does l Z n0 ⟨"com/example/bounded_lock/boundedlock/cli/RoundTimesAddPinLaw", "micros", "(J)J"⟩ method_2_code 6 (some .long) [] { frames := 0, cells := 0, slots := 0, locals := 0 } #[(.long x)] h0 (fun v h => v = some (.long (own_mi x)) ∧ h0 = h) := by
  refine Does.start (plainFor_of_name pn_12) ?_
  intro p e s m below meth c T X
  replace X : Sd _ _ _ _ _ "com/example/bounded_lock/boundedlock/cli/RoundTimesAddPinLaw" "micros" _ _ _ _ _ _ _ _ _ _ _ _ _ _ _ _ := X
  refine Wp.cast (g' := mkF m 0 #[.val (.long x), .second, .unset, .unset, .unset, .unset] []) (by first | (simp [entryFrame, mkF, argsToLocals, Value.category, maxLocals]; done) | rfl) ?_
  refine w_lloadN X d2_0 rfl ?_
  refine w_ldc2J X d2_1 (wd_5 hw) ?_
  refine w_ldiv X d2_4 (by decide) ?_
  refine w_lstoreN X #[.val (.long x), .second, .val (.long (x / (1000 : Int64))), .second, .unset, .unset] d2_5 rfl ?_
  refine w_lloadN X d2_6 rfl ?_
  refine w_lloadN X d2_7 rfl ?_
  refine w_ldc2J X d2_8 (wd_5 hw) ?_
  refine w_lmul X d2_11 ?_
  refine w_lsub X d2_12 ?_
  refine w_lstore X #[.val (.long x), .second, .val (.long (x / (1000 : Int64))), .second, .val (.long (x - ((x / (1000 : Int64)) * (1000 : Int64)))), .second] d2_13 rfl ?_
  refine w_lload X d2_15 rfl ?_
  refine w_ldc2J X d2_17 (wd_6 hw) ?_
  refine w_llt X d2_20 d2_21 (fun (hc21 : (x - ((x / (1000 : Int64)) * (1000 : Int64))) < (500 : Int64)) => ?_) (fun (hc21 : ¬ (x - ((x / (1000 : Int64)) * (1000 : Int64))) < (500 : Int64)) => ?_)
  · refine w_lloadN X d2_28 rfl ?_
    exact w_retJ X d2_29 ⟨by rw [own_mi, if_pos hc21], rfl⟩ (by decide) (by decide)
  · refine w_lloadN X d2_24 rfl ?_
    refine w_lconst X (1 : Int64) d2_25 rfl ?_
    refine w_ladd X d2_26 ?_
    exact w_retJ X d2_27 ⟨by rw [own_mi, if_neg hc21], rfl⟩ (by decide) (by decide)
theorem m_rnd (hw : own_hw a0 Z) {h0 : Heap} {rt : Addr} {n : Int64} (Fr : Fld Z h0 rt "com/example/bounded_lock/boundedlock/cli/RoundTimes" "rounds" "J" (.long n)) :
    Does l Z n0 ⟨"com/example/bounded_lock/boundedlock/cli/RoundTimes", "rounds", "()J"⟩ prog_2_method_4_code 1 (some .long) [] { frames := 0, cells := 0, slots := 0, locals := 0 } #[(.ref rt)] h0 (fun v h => v = some (.long n) ∧ h0 = h) := by
  refine Does.start (plainFor_of_name pn_7) ?_
  intro p e s m below meth c T X
  replace X : Sd _ _ _ _ _ "com/example/bounded_lock/boundedlock/cli/RoundTimes" "rounds" _ _ _ _ _ _ _ _ _ _ _ _ _ _ _ _ := X
  refine Wp.cast (g' := mkF m 0 #[.val (.ref rt)] []) (by first | (simp [entryFrame, mkF, argsToLocals, Value.category, maxLocals]; done) | rfl) ?_
  refine w_aloadN X q2_4_0 rfl (rfl) ?_
  refine w_getF X q2_4_1 (host := "") (Or.inl (wd_120 hw)) Via.refl Fr (fun T X => ?_)
  exact w_retJ X q2_4_4 ⟨rfl, rfl⟩ (by decide) (by decide)
theorem m_pc1 (hw : own_hw a0 Z) {h0 : Heap} {rt tm er kl1 vl1 : Addr} {pp : Int32} {nd k1 c1 : Int64} {ev : Value} {sz mc : Int32} (grt : n0 ≤ rt) (Ert : Exa Z h0 rt "com/example/bounded_lock/boundedlock/cli/RoundTimes") (Fc : Fld Z h0 rt "com/example/bounded_lock/boundedlock/cli/RoundTimes" "counts" "Ljava/util/TreeMap;" (.ref tm)) (Fr : Fld Z h0 rt "com/example/bounded_lock/boundedlock/cli/RoundTimes" "rounds" "J" (.long 3)) (M0 : own_M Z n0 h0 tm (.ref er) ev sz mc) (H0 : own_Es Z h0 tm ev) (S0 : own_Sh Z n0 h0 (.ref er) [(k1, c1)]) (N_er : own_N Z n0 h0 er (.ref kl1) (.ref vl1) .null .null .null (1 : Int32)) (Jk1 : own_J Z h0 kl1 k1) (Jc1 : own_J Z h0 vl1 c1) (hnd : own_mx (1 : Int64) ((((3 : Int64) * (pp.toInt64)) + (99 : Int64)) / (100 : Int64)) = nd) (hs : ¬ ((0 : Int64) + c1) < nd) :
    Does l Z n0 ⟨"com/example/bounded_lock/boundedlock/cli/RoundTimes", "percentile", "(I)J"⟩ prog_2_method_5_code 8 (some .long) [] { frames := 5, cells := 2, slots := 5, locals := 64 } #[(.ref rt), (.int pp)] h0 (fun v h => v = some (.long (own_pc nd 0 [(k1, c1)])) ∧ ∃ ev, own_RT Z n0 h rt 3 ev [(k1, c1)]) := by
  refine Does.start (plainFor_of_name pn_7) ?_
  intro p e s m below meth c T X
  replace X : Sd _ _ _ _ _ "com/example/bounded_lock/boundedlock/cli/RoundTimes" "percentile" _ _ _ _ _ _ _ _ _ _ _ _ _ _ _ _ := X
  refine Wp.cast (g' := mkF m 0 #[.val (.ref rt), .val (.int pp), .unset, .unset, .unset, .unset, .unset, .unset] []) (by first | (simp [entryFrame, mkF, argsToLocals, Value.category, maxLocals]; done) | rfl) ?_
  refine w_lconst X (1 : Int64) q2_5_0 rfl ?_
  refine w_aloadN X q2_5_1 rfl (rfl) ?_
  refine w_getF X q2_5_2 (host := "") (Or.inl (wd_120 hw)) Via.refl Fr (fun T X => ?_)
  refine w_iloadN X q2_5_5 rfl ?_
  refine w_i2l X q2_5_6 ?_
  refine w_lmul X q2_5_7 ?_
  refine w_ldc2J X q2_5_8 (wd_170 hw) ?_
  refine w_ladd X q2_5_11 ?_
  refine w_ldc2J X q2_5_12 (wd_171 hw) ?_
  refine w_ldiv X q2_5_15 (by decide) ?_
  refine w_callS X q2_5_16 (wd_172 hw) (wd_12 hw) (wd_9 hw) (wd_13 hw) (by decide) (argsL := [(.long (1 : Int64)), (.long ((((3 : Int64) * (pp.toInt64)) + (99 : Int64)) / (100 : Int64)))]) (S := []) (m_mx hw hnd) pd_21 rfl rfl rfl (by decide) (leR rfl) (by decide) (by decide) (fun T h1 v1 L1 X q1 => ?_)
  obtain ⟨rfl, rfl⟩ := q1
  show Wp _ _ _ _ (T.setTop (mkF _ _ _ [(.long nd)]))
  refine w_lstoreN X #[.val (.ref rt), .val (.int pp), .val (.long nd), .second, .unset, .unset, .unset, .unset] q2_5_19 rfl ?_
  refine w_lconst X (0 : Int64) q2_5_20 rfl ?_
  refine w_lstore X #[.val (.ref rt), .val (.int pp), .val (.long nd), .second, .val (.long (0 : Int64)), .second, .unset, .unset] q2_5_21 rfl ?_
  refine w_aloadN X q2_5_23 rfl (rfl) ?_
  refine w_getF X q2_5_24 (host := "") (Or.inl (wd_42 hw)) Via.refl Fc (fun T X => ?_)
  have mq1 : own_M Z n0 h0 tm (.ref er) ev sz mc := ⟨M0.1, M0.2.1, M0.2.2.1, M0.2.2.2.1, M0.2.2.2.2.1, M0.2.2.2.2.2.1, M0.2.2.2.2.2.2⟩
  refine w_callV X q2_5_27 (wd_173 hw) (wd_174 hw) (notFace_of_selects (args := #[]) (mvT X.hZ (wd_176 hw))) (wd_176 hw) (wd_175 hw) (wd_25 hw) (wd_177 hw) (by decide) M0.2.1 (argsL := []) (S := []) (m_es hw mq1 H0) pd_22 rfl rfl rfl (by decide) (leR rfl) (by decide) (by decide) (fun T h2 v2 L2 X q2 => ?_)
  obtain ⟨es2, rfl, M_2, Ee2, Fe2, Kc2⟩ := q2
  have K2 : Keep h0 h2 [tm] := (Keep.refl h0 [tm]).trans Kc2 (fun x hx => by cases List.mem_singleton.mp hx; exact (Or.inl (List.mem_of_getElem? (i := 0) rfl)))
  show Wp _ _ _ _ (T.setTop (mkF _ _ _ [(.ref es2)]))
  have f3 := (N_er.2.1.keep Kc2)
  have f4 := (N_er.2.2.2.2.1.keep Kc2 (ni1 (Exa.ne f3 M_2.2.1 (by decide))))
  refine w_callN X q2_5_30 (wd_202 hw) (wd_203 hw) (wd_204 hw) (wd_205 hw) (wd_206 hw) (wd_207 hw) (wd_208 hw) (wd_209 hw) (wd_182 hw) (wd_210 hw) (by decide) Ee2 (argsL := []) (S := []) (m_it1 hw Ee2 Fe2 M_2.2.1 M_2.2.2.1 M_2.2.2.2.2.1 f4) pd_23 rfl rfl rfl (by decide) (leR rfl) (by decide) (by decide) (fun T h3 v3 L3 X q3 => ?_)
  obtain ⟨it3, rfl, gi3, I_3, Kc3⟩ := q3
  have K5 : Keep h0 h3 [tm] := K2.trans Kc3 (fun x hx => nomatch hx)
  have sz_it3 : h0.size ≤ it3 := Nat.le_trans K2.1 gi3
  show Wp _ _ _ _ (T.setTop (mkF _ _ _ [(.ref it3)]))
  refine w_astore X #[.val (.ref rt), .val (.int pp), .val (.long nd), .second, .val (.long (0 : Int64)), .second, .val (.ref it3), .unset] q2_5_35 (rfl) rfl ?_
  refine w_aload X q2_5_37 rfl (rfl) ?_
  refine w_callN X q2_5_39 (wd_241 hw) (wd_242 hw) (wd_243 hw) (wd_244 hw) (wd_245 hw) (wd_246 hw) (wd_247 hw) (wd_248 hw) (wd_229 hw) (wd_249 hw) (by decide) I_3.2.1 (argsL := []) (S := []) (m_hnr hw I_3.2.2.2.2.2) pd_24 rfl rfl rfl (by decide) (leR rfl) (by decide) (by decide) (fun T h4 v4 L4 X q4 => ?_)
  obtain ⟨rfl, rfl⟩ := q4
  show Wp _ _ _ _ (T.setTop (mkF _ _ _ [(.int (1 : Int32))]))
  refine w_ifeq X q2_5_44 (fun hc => absurd hc (by decide)) (fun _ => ?_)
  refine w_aload X q2_5_47 rfl (rfl) ?_
  have f6 := (f3.keep Kc3)
  have f7 := (M_2.2.1.keep Kc3)
  have f8 := ((N_er.2.2.2.2.2.1.keep Kc2 (ni1 (Exa.ne f6 f7 (by decide)))).keep Kc3 (List.not_mem_nil))
  have f9 := ((N_er.2.2.2.2.2.2.1.keep Kc2 (ni1 (Exa.ne f6 f7 (by decide)))).keep Kc3 (List.not_mem_nil))
  have iq10 : own_I Z n0 h3 it3 tm mc .null (.ref er) := ⟨I_3.1, I_3.2.1, I_3.2.2.1, I_3.2.2.2.1, I_3.2.2.2.2.1, I_3.2.2.2.2.2⟩
  have f11 := (M_2.2.2.2.2.1.keep Kc3 (List.not_mem_nil))
  refine w_callN X q2_5_49 (wd_250 hw) (wd_251 hw) (wd_252 hw) (wd_253 hw) (wd_254 hw) (wd_255 hw) (wd_256 hw) (wd_248 hw) (wd_213 hw) (wd_257 hw) (by decide) I_3.2.1 (argsL := []) (S := []) (m_nxon hw iq10 f11 (m_suA hw f8 f9)) pd_25 rfl rfl rfl (by decide) (leR rfl) (by decide) (by decide) (fun T h5 v5 L5 X q5 => ?_)
  obtain ⟨rfl, I_5, Kc5⟩ := q5
  have K12 : Keep h0 h5 [tm] := K5.trans Kc5 (fun x hx => by cases List.mem_singleton.mp hx; exact (Or.inr sz_it3))
  show Wp _ _ _ _ (T.setTop (mkF _ _ _ [(.ref er)]))
  have f13 := (f6.keep Kc5)
  refine w_cast X q2_5_54 (wd_272 hw) (Ins.of_exa f13 (wd_273 hw)) (fun T X => ?_)
  refine w_astore X #[.val (.ref rt), .val (.int pp), .val (.long nd), .second, .val (.long (0 : Int64)), .second, .val (.ref it3), .val (.ref er)] q2_5_57 (rfl) rfl ?_
  refine w_lload X q2_5_59 rfl ?_
  refine w_aload X q2_5_61 rfl (rfl) ?_
  have f14 := (f7.keep Kc5)
  have f15 := (((N_er.2.2.2.1.keep Kc2 (ni1 (Exa.ne f13 f14 (by decide)))).keep Kc3 (List.not_mem_nil)).keep Kc5 (ni1 (Exa.ne f13 I_5.2.1 (by decide))))
  refine w_callN X q2_5_63 (wd_274 hw) (wd_275 hw) (wd_276 hw) (wd_277 hw) (wd_278 hw) (wd_279 hw) (wd_280 hw) (wd_273 hw) (wd_106 hw) (wd_281 hw) (by decide) f13 (argsL := []) (S := [(.long (0 : Int64))]) (m_getValue hw f15) pd_25 rfl rfl rfl (by decide) (leR rfl) (by decide) (by decide) (fun T h6 v6 L6 X q6 => ?_)
  obtain ⟨rfl, rfl⟩ := q6
  show Wp _ _ _ _ (T.setTop (mkF _ _ _ [(.ref vl1), (.long (0 : Int64))]))
  have f16 := (((Jc1.1.keep Kc2).keep Kc3).keep Kc5)
  refine w_cast X q2_5_68 (wd_282 hw) (Ins.self f16) (fun T X => ?_)
  have f17 := (((Jc1.2.keep Kc2 (ni1 (Exa.ne f16 f14 (by decide)))).keep Kc3 (List.not_mem_nil)).keep Kc5 (ni1 (Exa.ne f16 I_5.2.1 (by decide))))
  have jq18 : own_J Z h5 vl1 c1 := ⟨f16, f17⟩
  refine w_callV X q2_5_71 (wd_283 hw) (wd_284 hw) (notFace_of_selects (args := #[]) (mvT X.hZ (wd_286 hw))) (wd_286 hw) (wd_285 hw) (wd_53 hw) (wd_287 hw) (by decide) f16 (argsL := []) (S := [(.long (0 : Int64))]) (m_lv hw jq18) pd_26 rfl rfl rfl (by decide) (leR rfl) (by decide) (by decide) (fun T h7 v7 L7 X q7 => ?_)
  obtain ⟨rfl, rfl⟩ := q7
  show Wp _ _ _ _ (T.setTop (mkF _ _ _ [(.long c1), (.long (0 : Int64))]))
  refine w_ladd X q2_5_74 ?_
  refine w_lstore X #[.val (.ref rt), .val (.int pp), .val (.long nd), .second, .val (.long ((0 : Int64) + c1)), .second, .val (.ref it3), .val (.ref er)] q2_5_75 rfl ?_
  refine w_lload X q2_5_77 rfl ?_
  refine w_lloadN X q2_5_79 rfl ?_
  refine w_llt X q2_5_80 q2_5_81 (fun hc => absurd hc hs) (fun _ => ?_)
  refine w_aload X q2_5_84 rfl (rfl) ?_
  have f19 := (((N_er.2.2.1.keep Kc2 (ni1 (Exa.ne f13 f14 (by decide)))).keep Kc3 (List.not_mem_nil)).keep Kc5 (ni1 (Exa.ne f13 I_5.2.1 (by decide))))
  refine w_callN X q2_5_86 (wd_288 hw) (wd_289 hw) (wd_290 hw) (wd_291 hw) (wd_292 hw) (wd_293 hw) (wd_294 hw) (wd_273 hw) (wd_106 hw) (wd_295 hw) (by decide) f13 (argsL := []) (S := []) (m_getKey hw f19) pd_25 rfl rfl rfl (by decide) (leR rfl) (by decide) (by decide) (fun T h8 v8 L8 X q8 => ?_)
  obtain ⟨rfl, rfl⟩ := q8
  show Wp _ _ _ _ (T.setTop (mkF _ _ _ [(.ref kl1)]))
  have f20 := (((Jk1.1.keep Kc2).keep Kc3).keep Kc5)
  refine w_cast X q2_5_91 (wd_282 hw) (Ins.self f20) (fun T X => ?_)
  have f21 := (((Jk1.2.keep Kc2 (ni1 (Exa.ne f20 f14 (by decide)))).keep Kc3 (List.not_mem_nil)).keep Kc5 (ni1 (Exa.ne f20 I_5.2.1 (by decide))))
  have jq22 : own_J Z h5 kl1 k1 := ⟨f20, f21⟩
  refine w_callV X q2_5_94 (wd_283 hw) (wd_284 hw) (notFace_of_selects (args := #[]) (mvT X.hZ (wd_286 hw))) (wd_286 hw) (wd_285 hw) (wd_53 hw) (wd_287 hw) (by decide) f20 (argsL := []) (S := []) (m_lv hw jq22) pd_26 rfl rfl rfl (by decide) (leR rfl) (by decide) (by decide) (fun T h9 v9 L9 X q9 => ?_)
  obtain ⟨rfl, rfl⟩ := q9
  show Wp _ _ _ _ (T.setTop (mkF _ _ _ [(.long k1)]))
  have f23 := ((M_2.2.2.1.keep Kc3 (List.not_mem_nil)).keep Kc5 (ni1 (Exa.ne f14 I_5.2.1 (by decide))))
  have f24 := ((M_2.2.2.2.1.keep Kc3 (List.not_mem_nil)).keep Kc5 (ni1 (Exa.ne f14 I_5.2.1 (by decide))))
  have f25 := (f11.keep Kc5 (ni1 (Exa.ne f14 I_5.2.1 (by decide))))
  have f26 := ((M_2.2.2.2.2.2.1.keep Kc3 (List.not_mem_nil)).keep Kc5 (ni1 (Exa.ne f14 I_5.2.1 (by decide))))
  have f27 := ((M_2.2.2.2.2.2.2.keep Kc3 (List.not_mem_nil)).keep Kc5 (ni1 (Exa.ne f14 I_5.2.1 (by decide))))
  have f28 := ((Ee2.keep Kc3).keep Kc5)
  have f29 := ((Fe2.keep Kc3 (List.not_mem_nil)).keep Kc5 (ni1 (Exa.ne f28 I_5.2.1 (by decide))))
  have f30 := (((Ert.keep Kc2).keep Kc3).keep Kc5)
  have f31 := (((Fc.keep Kc2 (ni1 (Exa.ne f30 f14 (by decide)))).keep Kc3 (List.not_mem_nil)).keep Kc5 (ni1 (Exa.ne f30 I_5.2.1 (by decide))))
  have f32 := (((Fr.keep Kc2 (ni1 (Exa.ne f30 f14 (by decide)))).keep Kc3 (List.not_mem_nil)).keep Kc5 (ni1 (Exa.ne f30 I_5.2.1 (by decide))))
  exact w_retJ X q2_5_97 ⟨by rw [own_pc, if_neg hs], _, ⟨tm, grt, f30, f31, f32, ⟨_, _, _, ⟨M_2.1, f14, f23, f24, f25, f26, f27⟩, S0.kp K12 (own_ok1 f14 (by decide) (by decide))⟩, Or.inr ⟨es2, rfl, f28, f29⟩⟩⟩ (by decide) (by decide)
theorem m_pc2l (hw : own_hw a0 Z) {h0 : Heap} {rt tm er el kl1 vl1 kl2 vl2 : Addr} {pp : Int32} {nd k1 c1 k2 c2 : Int64} {ev : Value} {sz mc : Int32} (grt : n0 ≤ rt) (Ert : Exa Z h0 rt "com/example/bounded_lock/boundedlock/cli/RoundTimes") (Fc : Fld Z h0 rt "com/example/bounded_lock/boundedlock/cli/RoundTimes" "counts" "Ljava/util/TreeMap;" (.ref tm)) (Fr : Fld Z h0 rt "com/example/bounded_lock/boundedlock/cli/RoundTimes" "rounds" "J" (.long 3)) (M0 : own_M Z n0 h0 tm (.ref er) ev sz mc) (H0 : own_Es Z h0 tm ev) (S0 : own_Sh Z n0 h0 (.ref er) [(k1, c1), (k2, c2)]) (N_er : own_N Z n0 h0 er (.ref kl2) (.ref vl2) (.ref el) .null .null (1 : Int32)) (N_el : own_N Z n0 h0 el (.ref kl1) (.ref vl1) .null .null (.ref er) (0 : Int32)) (Jk1 : own_J Z h0 kl1 k1) (Jc1 : own_J Z h0 vl1 c1) (Jk2 : own_J Z h0 kl2 k2) (Jc2 : own_J Z h0 vl2 c2) (hnd : own_mx (1 : Int64) ((((3 : Int64) * (pp.toInt64)) + (99 : Int64)) / (100 : Int64)) = nd) (hs : ¬ (((0 : Int64) + c1) + c2) < nd) :
    Does l Z n0 ⟨"com/example/bounded_lock/boundedlock/cli/RoundTimes", "percentile", "(I)J"⟩ prog_2_method_5_code 8 (some .long) [] { frames := 5, cells := 2, slots := 5, locals := 64 } #[(.ref rt), (.int pp)] h0 (fun v h => v = some (.long (own_pc nd 0 [(k1, c1), (k2, c2)])) ∧ ∃ ev, own_RT Z n0 h rt 3 ev [(k1, c1), (k2, c2)]) := by
  refine Does.start (plainFor_of_name pn_7) ?_
  intro p e s m below meth c T X
  replace X : Sd _ _ _ _ _ "com/example/bounded_lock/boundedlock/cli/RoundTimes" "percentile" _ _ _ _ _ _ _ _ _ _ _ _ _ _ _ _ := X
  refine Wp.cast (g' := mkF m 0 #[.val (.ref rt), .val (.int pp), .unset, .unset, .unset, .unset, .unset, .unset] []) (by first | (simp [entryFrame, mkF, argsToLocals, Value.category, maxLocals]; done) | rfl) ?_
  refine w_lconst X (1 : Int64) q2_5_0 rfl ?_
  refine w_aloadN X q2_5_1 rfl (rfl) ?_
  refine w_getF X q2_5_2 (host := "") (Or.inl (wd_120 hw)) Via.refl Fr (fun T X => ?_)
  refine w_iloadN X q2_5_5 rfl ?_
  refine w_i2l X q2_5_6 ?_
  refine w_lmul X q2_5_7 ?_
  refine w_ldc2J X q2_5_8 (wd_170 hw) ?_
  refine w_ladd X q2_5_11 ?_
  refine w_ldc2J X q2_5_12 (wd_171 hw) ?_
  refine w_ldiv X q2_5_15 (by decide) ?_
  refine w_callS X q2_5_16 (wd_172 hw) (wd_12 hw) (wd_9 hw) (wd_13 hw) (by decide) (argsL := [(.long (1 : Int64)), (.long ((((3 : Int64) * (pp.toInt64)) + (99 : Int64)) / (100 : Int64)))]) (S := []) (m_mx hw hnd) pd_21 rfl rfl rfl (by decide) (leR rfl) (by decide) (by decide) (fun T h1 v1 L1 X q1 => ?_)
  obtain ⟨rfl, rfl⟩ := q1
  show Wp _ _ _ _ (T.setTop (mkF _ _ _ [(.long nd)]))
  refine w_lstoreN X #[.val (.ref rt), .val (.int pp), .val (.long nd), .second, .unset, .unset, .unset, .unset] q2_5_19 rfl ?_
  refine w_lconst X (0 : Int64) q2_5_20 rfl ?_
  refine w_lstore X #[.val (.ref rt), .val (.int pp), .val (.long nd), .second, .val (.long (0 : Int64)), .second, .unset, .unset] q2_5_21 rfl ?_
  refine w_aloadN X q2_5_23 rfl (rfl) ?_
  refine w_getF X q2_5_24 (host := "") (Or.inl (wd_42 hw)) Via.refl Fc (fun T X => ?_)
  have mq1 : own_M Z n0 h0 tm (.ref er) ev sz mc := ⟨M0.1, M0.2.1, M0.2.2.1, M0.2.2.2.1, M0.2.2.2.2.1, M0.2.2.2.2.2.1, M0.2.2.2.2.2.2⟩
  refine w_callV X q2_5_27 (wd_173 hw) (wd_174 hw) (notFace_of_selects (args := #[]) (mvT X.hZ (wd_176 hw))) (wd_176 hw) (wd_175 hw) (wd_25 hw) (wd_177 hw) (by decide) M0.2.1 (argsL := []) (S := []) (m_es hw mq1 H0) pd_22 rfl rfl rfl (by decide) (leR rfl) (by decide) (by decide) (fun T h2 v2 L2 X q2 => ?_)
  obtain ⟨es2, rfl, M_2, Ee2, Fe2, Kc2⟩ := q2
  have K2 : Keep h0 h2 [tm] := (Keep.refl h0 [tm]).trans Kc2 (fun x hx => by cases List.mem_singleton.mp hx; exact (Or.inl (List.mem_of_getElem? (i := 0) rfl)))
  show Wp _ _ _ _ (T.setTop (mkF _ _ _ [(.ref es2)]))
  have f3 := (N_er.2.1.keep Kc2)
  have f4 := (N_er.2.2.2.2.1.keep Kc2 (ni1 (Exa.ne f3 M_2.2.1 (by decide))))
  have f5 := (N_el.2.1.keep Kc2)
  have f6 := (N_el.2.2.2.2.1.keep Kc2 (ni1 (Exa.ne f5 M_2.2.1 (by decide))))
  refine w_callN X q2_5_30 (wd_202 hw) (wd_203 hw) (wd_204 hw) (wd_205 hw) (wd_206 hw) (wd_207 hw) (wd_208 hw) (wd_209 hw) (wd_182 hw) (wd_210 hw) (by decide) Ee2 (argsL := []) (S := []) (m_it2 hw Ee2 Fe2 M_2.2.1 M_2.2.2.1 M_2.2.2.2.2.1 f4 f6) pd_23 rfl rfl rfl (by decide) (leR rfl) (by decide) (by decide) (fun T h3 v3 L3 X q3 => ?_)
  obtain ⟨it3, rfl, gi3, I_3, Kc3⟩ := q3
  have K7 : Keep h0 h3 [tm] := K2.trans Kc3 (fun x hx => nomatch hx)
  have sz_it3 : h0.size ≤ it3 := Nat.le_trans K2.1 gi3
  show Wp _ _ _ _ (T.setTop (mkF _ _ _ [(.ref it3)]))
  refine w_astore X #[.val (.ref rt), .val (.int pp), .val (.long nd), .second, .val (.long (0 : Int64)), .second, .val (.ref it3), .unset] q2_5_35 (rfl) rfl ?_
  refine w_aload X q2_5_37 rfl (rfl) ?_
  refine w_callN X q2_5_39 (wd_241 hw) (wd_242 hw) (wd_243 hw) (wd_244 hw) (wd_245 hw) (wd_246 hw) (wd_247 hw) (wd_248 hw) (wd_229 hw) (wd_249 hw) (by decide) I_3.2.1 (argsL := []) (S := []) (m_hnr hw I_3.2.2.2.2.2) pd_24 rfl rfl rfl (by decide) (leR rfl) (by decide) (by decide) (fun T h4 v4 L4 X q4 => ?_)
  obtain ⟨rfl, rfl⟩ := q4
  show Wp _ _ _ _ (T.setTop (mkF _ _ _ [(.int (1 : Int32))]))
  refine w_ifeq X q2_5_44 (fun hc => absurd hc (by decide)) (fun _ => ?_)
  refine w_aload X q2_5_47 rfl (rfl) ?_
  have f8 := (f5.keep Kc3)
  have f9 := (M_2.2.1.keep Kc3)
  have f10 := ((N_el.2.2.2.2.2.1.keep Kc2 (ni1 (Exa.ne f8 f9 (by decide)))).keep Kc3 (List.not_mem_nil))
  have f11 := ((N_el.2.2.2.2.2.2.1.keep Kc2 (ni1 (Exa.ne f8 f9 (by decide)))).keep Kc3 (List.not_mem_nil))
  have f12 := (f3.keep Kc3)
  have f13 := ((N_er.2.2.2.2.2.1.keep Kc2 (ni1 (Exa.ne f12 f9 (by decide)))).keep Kc3 (List.not_mem_nil))
  have iq14 : own_I Z n0 h3 it3 tm mc .null (.ref el) := ⟨I_3.1, I_3.2.1, I_3.2.2.1, I_3.2.2.2.1, I_3.2.2.2.2.1, I_3.2.2.2.2.2⟩
  have f15 := (M_2.2.2.2.2.1.keep Kc3 (List.not_mem_nil))
  refine w_callN X q2_5_49 (wd_250 hw) (wd_251 hw) (wd_252 hw) (wd_253 hw) (wd_254 hw) (wd_255 hw) (wd_256 hw) (wd_248 hw) (wd_213 hw) (wd_257 hw) (by decide) I_3.2.1 (argsL := []) (S := []) (m_nxor hw iq14 f15 (m_suB hw (pv := .null) rfl nofun f10 f11 f13)) pd_25 rfl rfl rfl (by decide) (leR rfl) (by decide) (by decide) (fun T h5 v5 L5 X q5 => ?_)
  obtain ⟨rfl, I_5, Kc5⟩ := q5
  have K16 : Keep h0 h5 [tm] := K7.trans Kc5 (fun x hx => by cases List.mem_singleton.mp hx; exact (Or.inr sz_it3))
  show Wp _ _ _ _ (T.setTop (mkF _ _ _ [(.ref el)]))
  have f17 := (f8.keep Kc5)
  refine w_cast X q2_5_54 (wd_272 hw) (Ins.of_exa f17 (wd_273 hw)) (fun T X => ?_)
  refine w_astore X #[.val (.ref rt), .val (.int pp), .val (.long nd), .second, .val (.long (0 : Int64)), .second, .val (.ref it3), .val (.ref el)] q2_5_57 (rfl) rfl ?_
  refine w_lload X q2_5_59 rfl ?_
  refine w_aload X q2_5_61 rfl (rfl) ?_
  have f18 := (f9.keep Kc5)
  have f19 := (((N_el.2.2.2.1.keep Kc2 (ni1 (Exa.ne f17 f18 (by decide)))).keep Kc3 (List.not_mem_nil)).keep Kc5 (ni1 (Exa.ne f17 I_5.2.1 (by decide))))
  refine w_callN X q2_5_63 (wd_274 hw) (wd_275 hw) (wd_276 hw) (wd_277 hw) (wd_278 hw) (wd_279 hw) (wd_280 hw) (wd_273 hw) (wd_106 hw) (wd_281 hw) (by decide) f17 (argsL := []) (S := [(.long (0 : Int64))]) (m_getValue hw f19) pd_25 rfl rfl rfl (by decide) (leR rfl) (by decide) (by decide) (fun T h6 v6 L6 X q6 => ?_)
  obtain ⟨rfl, rfl⟩ := q6
  show Wp _ _ _ _ (T.setTop (mkF _ _ _ [(.ref vl1), (.long (0 : Int64))]))
  have f20 := (((Jc1.1.keep Kc2).keep Kc3).keep Kc5)
  refine w_cast X q2_5_68 (wd_282 hw) (Ins.self f20) (fun T X => ?_)
  have f21 := (((Jc1.2.keep Kc2 (ni1 (Exa.ne f20 f18 (by decide)))).keep Kc3 (List.not_mem_nil)).keep Kc5 (ni1 (Exa.ne f20 I_5.2.1 (by decide))))
  have jq22 : own_J Z h5 vl1 c1 := ⟨f20, f21⟩
  refine w_callV X q2_5_71 (wd_283 hw) (wd_284 hw) (notFace_of_selects (args := #[]) (mvT X.hZ (wd_286 hw))) (wd_286 hw) (wd_285 hw) (wd_53 hw) (wd_287 hw) (by decide) f20 (argsL := []) (S := [(.long (0 : Int64))]) (m_lv hw jq22) pd_26 rfl rfl rfl (by decide) (leR rfl) (by decide) (by decide) (fun T h7 v7 L7 X q7 => ?_)
  obtain ⟨rfl, rfl⟩ := q7
  show Wp _ _ _ _ (T.setTop (mkF _ _ _ [(.long c1), (.long (0 : Int64))]))
  refine w_ladd X q2_5_74 ?_
  refine w_lstore X #[.val (.ref rt), .val (.int pp), .val (.long nd), .second, .val (.long ((0 : Int64) + c1)), .second, .val (.ref it3), .val (.ref el)] q2_5_75 rfl ?_
  refine w_lload X q2_5_77 rfl ?_
  refine w_lloadN X q2_5_79 rfl ?_
  refine w_llt X q2_5_80 q2_5_81 (fun (hc81 : ((0 : Int64) + c1) < nd) => ?_) (fun (hc81 : ¬ ((0 : Int64) + c1) < nd) => ?_)
  · refine w_goto X q2_5_98 ?_
    refine w_aload X q2_5_37 rfl (rfl) ?_
    refine w_callN X q2_5_39 (wd_241 hw) (wd_242 hw) (wd_243 hw) (wd_244 hw) (wd_245 hw) (wd_246 hw) (wd_247 hw) (wd_248 hw) (wd_229 hw) (wd_249 hw) (by decide) I_5.2.1 (argsL := []) (S := []) (m_hnr hw I_5.2.2.2.2.2) pd_24 rfl rfl rfl (by decide) (leR rfl) (by decide) (by decide) (fun T h8 v8 L8 X q8 => ?_)
    obtain ⟨rfl, rfl⟩ := q8
    show Wp _ _ _ _ (T.setTop (mkF _ _ _ [(.int (1 : Int32))]))
    refine w_ifeq X q2_5_44 (fun hc => absurd hc (by decide)) (fun _ => ?_)
    refine w_aload X q2_5_47 rfl (rfl) ?_
    have f23 := (f12.keep Kc5)
    have f24 := (f13.keep Kc5 (ni1 (Exa.ne f23 I_5.2.1 (by decide))))
    have f25 := (((N_er.2.2.2.2.2.2.1.keep Kc2 (ni1 (Exa.ne f23 f18 (by decide)))).keep Kc3 (List.not_mem_nil)).keep Kc5 (ni1 (Exa.ne f23 I_5.2.1 (by decide))))
    have iq26 : own_I Z n0 h5 it3 tm mc (.ref el) (.ref er) := ⟨I_5.1, I_5.2.1, I_5.2.2.1, I_5.2.2.2.1, I_5.2.2.2.2.1, I_5.2.2.2.2.2⟩
    have f27 := (f15.keep Kc5 (ni1 (Exa.ne f18 I_5.2.1 (by decide))))
    refine w_callN X q2_5_49 (wd_250 hw) (wd_251 hw) (wd_252 hw) (wd_253 hw) (wd_254 hw) (wd_255 hw) (wd_256 hw) (wd_248 hw) (wd_213 hw) (wd_257 hw) (by decide) I_5.2.1 (argsL := []) (S := []) (m_nxon hw iq26 f27 (m_suA hw f24 f25)) pd_25 rfl rfl rfl (by decide) (leR rfl) (by decide) (by decide) (fun T h9 v9 L9 X q9 => ?_)
    obtain ⟨rfl, I_9, Kc9⟩ := q9
    have K28 : Keep h0 h9 [tm] := K16.trans Kc9 (fun x hx => by cases List.mem_singleton.mp hx; exact (Or.inr sz_it3))
    show Wp _ _ _ _ (T.setTop (mkF _ _ _ [(.ref er)]))
    have f29 := (f23.keep Kc9)
    refine w_cast X q2_5_54 (wd_272 hw) (Ins.of_exa f29 (wd_273 hw)) (fun T X => ?_)
    refine w_astore X #[.val (.ref rt), .val (.int pp), .val (.long nd), .second, .val (.long ((0 : Int64) + c1)), .second, .val (.ref it3), .val (.ref er)] q2_5_57 (rfl) rfl ?_
    refine w_lload X q2_5_59 rfl ?_
    refine w_aload X q2_5_61 rfl (rfl) ?_
    have f30 := (f18.keep Kc9)
    have f31 := ((((N_er.2.2.2.1.keep Kc2 (ni1 (Exa.ne f29 f30 (by decide)))).keep Kc3 (List.not_mem_nil)).keep Kc5 (ni1 (Exa.ne f29 I_9.2.1 (by decide)))).keep Kc9 (ni1 (Exa.ne f29 I_9.2.1 (by decide))))
    refine w_callN X q2_5_63 (wd_274 hw) (wd_275 hw) (wd_276 hw) (wd_277 hw) (wd_278 hw) (wd_279 hw) (wd_280 hw) (wd_273 hw) (wd_106 hw) (wd_281 hw) (by decide) f29 (argsL := []) (S := [(.long ((0 : Int64) + c1))]) (m_getValue hw f31) pd_25 rfl rfl rfl (by decide) (leR rfl) (by decide) (by decide) (fun T h10 v10 L10 X q10 => ?_)
    obtain ⟨rfl, rfl⟩ := q10
    show Wp _ _ _ _ (T.setTop (mkF _ _ _ [(.ref vl2), (.long ((0 : Int64) + c1))]))
    have f32 := ((((Jc2.1.keep Kc2).keep Kc3).keep Kc5).keep Kc9)
    refine w_cast X q2_5_68 (wd_282 hw) (Ins.self f32) (fun T X => ?_)
    have f33 := ((((Jc2.2.keep Kc2 (ni1 (Exa.ne f32 f30 (by decide)))).keep Kc3 (List.not_mem_nil)).keep Kc5 (ni1 (Exa.ne f32 I_9.2.1 (by decide)))).keep Kc9 (ni1 (Exa.ne f32 I_9.2.1 (by decide))))
    have jq34 : own_J Z h9 vl2 c2 := ⟨f32, f33⟩
    refine w_callV X q2_5_71 (wd_283 hw) (wd_284 hw) (notFace_of_selects (args := #[]) (mvT X.hZ (wd_286 hw))) (wd_286 hw) (wd_285 hw) (wd_53 hw) (wd_287 hw) (by decide) f32 (argsL := []) (S := [(.long ((0 : Int64) + c1))]) (m_lv hw jq34) pd_26 rfl rfl rfl (by decide) (leR rfl) (by decide) (by decide) (fun T h11 v11 L11 X q11 => ?_)
    obtain ⟨rfl, rfl⟩ := q11
    show Wp _ _ _ _ (T.setTop (mkF _ _ _ [(.long c2), (.long ((0 : Int64) + c1))]))
    refine w_ladd X q2_5_74 ?_
    refine w_lstore X #[.val (.ref rt), .val (.int pp), .val (.long nd), .second, .val (.long (((0 : Int64) + c1) + c2)), .second, .val (.ref it3), .val (.ref er)] q2_5_75 rfl ?_
    refine w_lload X q2_5_77 rfl ?_
    refine w_lloadN X q2_5_79 rfl ?_
    refine w_llt X q2_5_80 q2_5_81 (fun hc => absurd hc hs) (fun _ => ?_)
    refine w_aload X q2_5_84 rfl (rfl) ?_
    have f35 := ((((N_er.2.2.1.keep Kc2 (ni1 (Exa.ne f29 f30 (by decide)))).keep Kc3 (List.not_mem_nil)).keep Kc5 (ni1 (Exa.ne f29 I_9.2.1 (by decide)))).keep Kc9 (ni1 (Exa.ne f29 I_9.2.1 (by decide))))
    refine w_callN X q2_5_86 (wd_288 hw) (wd_289 hw) (wd_290 hw) (wd_291 hw) (wd_292 hw) (wd_293 hw) (wd_294 hw) (wd_273 hw) (wd_106 hw) (wd_295 hw) (by decide) f29 (argsL := []) (S := []) (m_getKey hw f35) pd_25 rfl rfl rfl (by decide) (leR rfl) (by decide) (by decide) (fun T h12 v12 L12 X q12 => ?_)
    obtain ⟨rfl, rfl⟩ := q12
    show Wp _ _ _ _ (T.setTop (mkF _ _ _ [(.ref kl2)]))
    have f36 := ((((Jk2.1.keep Kc2).keep Kc3).keep Kc5).keep Kc9)
    refine w_cast X q2_5_91 (wd_282 hw) (Ins.self f36) (fun T X => ?_)
    have f37 := ((((Jk2.2.keep Kc2 (ni1 (Exa.ne f36 f30 (by decide)))).keep Kc3 (List.not_mem_nil)).keep Kc5 (ni1 (Exa.ne f36 I_9.2.1 (by decide)))).keep Kc9 (ni1 (Exa.ne f36 I_9.2.1 (by decide))))
    have jq38 : own_J Z h9 kl2 k2 := ⟨f36, f37⟩
    refine w_callV X q2_5_94 (wd_283 hw) (wd_284 hw) (notFace_of_selects (args := #[]) (mvT X.hZ (wd_286 hw))) (wd_286 hw) (wd_285 hw) (wd_53 hw) (wd_287 hw) (by decide) f36 (argsL := []) (S := []) (m_lv hw jq38) pd_26 rfl rfl rfl (by decide) (leR rfl) (by decide) (by decide) (fun T h13 v13 L13 X q13 => ?_)
    obtain ⟨rfl, rfl⟩ := q13
    show Wp _ _ _ _ (T.setTop (mkF _ _ _ [(.long k2)]))
    have f39 := (((M_2.2.2.1.keep Kc3 (List.not_mem_nil)).keep Kc5 (ni1 (Exa.ne f30 I_9.2.1 (by decide)))).keep Kc9 (ni1 (Exa.ne f30 I_9.2.1 (by decide))))
    have f40 := (((M_2.2.2.2.1.keep Kc3 (List.not_mem_nil)).keep Kc5 (ni1 (Exa.ne f30 I_9.2.1 (by decide)))).keep Kc9 (ni1 (Exa.ne f30 I_9.2.1 (by decide))))
    have f41 := (f27.keep Kc9 (ni1 (Exa.ne f30 I_9.2.1 (by decide))))
    have f42 := (((M_2.2.2.2.2.2.1.keep Kc3 (List.not_mem_nil)).keep Kc5 (ni1 (Exa.ne f30 I_9.2.1 (by decide)))).keep Kc9 (ni1 (Exa.ne f30 I_9.2.1 (by decide))))
    have f43 := (((M_2.2.2.2.2.2.2.keep Kc3 (List.not_mem_nil)).keep Kc5 (ni1 (Exa.ne f30 I_9.2.1 (by decide)))).keep Kc9 (ni1 (Exa.ne f30 I_9.2.1 (by decide))))
    have f44 := (((Ee2.keep Kc3).keep Kc5).keep Kc9)
    have f45 := (((Fe2.keep Kc3 (List.not_mem_nil)).keep Kc5 (ni1 (Exa.ne f44 I_9.2.1 (by decide)))).keep Kc9 (ni1 (Exa.ne f44 I_9.2.1 (by decide))))
    have f46 := ((((Ert.keep Kc2).keep Kc3).keep Kc5).keep Kc9)
    have f47 := ((((Fc.keep Kc2 (ni1 (Exa.ne f46 f30 (by decide)))).keep Kc3 (List.not_mem_nil)).keep Kc5 (ni1 (Exa.ne f46 I_9.2.1 (by decide)))).keep Kc9 (ni1 (Exa.ne f46 I_9.2.1 (by decide))))
    have f48 := ((((Fr.keep Kc2 (ni1 (Exa.ne f46 f30 (by decide)))).keep Kc3 (List.not_mem_nil)).keep Kc5 (ni1 (Exa.ne f46 I_9.2.1 (by decide)))).keep Kc9 (ni1 (Exa.ne f46 I_9.2.1 (by decide))))
    exact w_retJ X q2_5_97 ⟨by rw [own_pc, if_pos hc81, own_pc, if_neg hs], _, ⟨tm, grt, f46, f47, f48, ⟨_, _, _, ⟨M_2.1, f30, f39, f40, f41, f42, f43⟩, S0.kp K28 (own_ok1 f30 (by decide) (by decide))⟩, Or.inr ⟨es2, rfl, f44, f45⟩⟩⟩ (by decide) (by decide)
  · refine w_aload X q2_5_84 rfl (rfl) ?_
    have f49 := (((N_el.2.2.1.keep Kc2 (ni1 (Exa.ne f17 f18 (by decide)))).keep Kc3 (List.not_mem_nil)).keep Kc5 (ni1 (Exa.ne f17 I_5.2.1 (by decide))))
    refine w_callN X q2_5_86 (wd_288 hw) (wd_289 hw) (wd_290 hw) (wd_291 hw) (wd_292 hw) (wd_293 hw) (wd_294 hw) (wd_273 hw) (wd_106 hw) (wd_295 hw) (by decide) f17 (argsL := []) (S := []) (m_getKey hw f49) pd_25 rfl rfl rfl (by decide) (leR rfl) (by decide) (by decide) (fun T h14 v14 L14 X q14 => ?_)
    obtain ⟨rfl, rfl⟩ := q14
    show Wp _ _ _ _ (T.setTop (mkF _ _ _ [(.ref kl1)]))
    have f50 := (((Jk1.1.keep Kc2).keep Kc3).keep Kc5)
    refine w_cast X q2_5_91 (wd_282 hw) (Ins.self f50) (fun T X => ?_)
    have f51 := (((Jk1.2.keep Kc2 (ni1 (Exa.ne f50 f18 (by decide)))).keep Kc3 (List.not_mem_nil)).keep Kc5 (ni1 (Exa.ne f50 I_5.2.1 (by decide))))
    have jq52 : own_J Z h5 kl1 k1 := ⟨f50, f51⟩
    refine w_callV X q2_5_94 (wd_283 hw) (wd_284 hw) (notFace_of_selects (args := #[]) (mvT X.hZ (wd_286 hw))) (wd_286 hw) (wd_285 hw) (wd_53 hw) (wd_287 hw) (by decide) f50 (argsL := []) (S := []) (m_lv hw jq52) pd_26 rfl rfl rfl (by decide) (leR rfl) (by decide) (by decide) (fun T h15 v15 L15 X q15 => ?_)
    obtain ⟨rfl, rfl⟩ := q15
    show Wp _ _ _ _ (T.setTop (mkF _ _ _ [(.long k1)]))
    have f53 := ((M_2.2.2.1.keep Kc3 (List.not_mem_nil)).keep Kc5 (ni1 (Exa.ne f18 I_5.2.1 (by decide))))
    have f54 := ((M_2.2.2.2.1.keep Kc3 (List.not_mem_nil)).keep Kc5 (ni1 (Exa.ne f18 I_5.2.1 (by decide))))
    have f55 := (f15.keep Kc5 (ni1 (Exa.ne f18 I_5.2.1 (by decide))))
    have f56 := ((M_2.2.2.2.2.2.1.keep Kc3 (List.not_mem_nil)).keep Kc5 (ni1 (Exa.ne f18 I_5.2.1 (by decide))))
    have f57 := ((M_2.2.2.2.2.2.2.keep Kc3 (List.not_mem_nil)).keep Kc5 (ni1 (Exa.ne f18 I_5.2.1 (by decide))))
    have f58 := ((Ee2.keep Kc3).keep Kc5)
    have f59 := ((Fe2.keep Kc3 (List.not_mem_nil)).keep Kc5 (ni1 (Exa.ne f58 I_5.2.1 (by decide))))
    have f60 := (((Ert.keep Kc2).keep Kc3).keep Kc5)
    have f61 := (((Fc.keep Kc2 (ni1 (Exa.ne f60 f18 (by decide)))).keep Kc3 (List.not_mem_nil)).keep Kc5 (ni1 (Exa.ne f60 I_5.2.1 (by decide))))
    have f62 := (((Fr.keep Kc2 (ni1 (Exa.ne f60 f18 (by decide)))).keep Kc3 (List.not_mem_nil)).keep Kc5 (ni1 (Exa.ne f60 I_5.2.1 (by decide))))
    exact w_retJ X q2_5_97 ⟨by rw [own_pc, if_neg hc81], _, ⟨tm, grt, f60, f61, f62, ⟨_, _, _, ⟨M_2.1, f18, f53, f54, f55, f56, f57⟩, S0.kp K16 (own_ok1 f18 (by decide) (by decide))⟩, Or.inr ⟨es2, rfl, f58, f59⟩⟩⟩ (by decide) (by decide)
theorem m_pc2r (hw : own_hw a0 Z) {h0 : Heap} {rt tm er el kl1 vl1 kl2 vl2 : Addr} {pp : Int32} {nd k1 c1 k2 c2 : Int64} {ev : Value} {sz mc : Int32} (grt : n0 ≤ rt) (Ert : Exa Z h0 rt "com/example/bounded_lock/boundedlock/cli/RoundTimes") (Fc : Fld Z h0 rt "com/example/bounded_lock/boundedlock/cli/RoundTimes" "counts" "Ljava/util/TreeMap;" (.ref tm)) (Fr : Fld Z h0 rt "com/example/bounded_lock/boundedlock/cli/RoundTimes" "rounds" "J" (.long 3)) (M0 : own_M Z n0 h0 tm (.ref er) ev sz mc) (H0 : own_Es Z h0 tm ev) (S0 : own_Sh Z n0 h0 (.ref er) [(k1, c1), (k2, c2)]) (N_er : own_N Z n0 h0 er (.ref kl1) (.ref vl1) .null (.ref el) .null (1 : Int32)) (N_el : own_N Z n0 h0 el (.ref kl2) (.ref vl2) .null .null (.ref er) (0 : Int32)) (Jk1 : own_J Z h0 kl1 k1) (Jc1 : own_J Z h0 vl1 c1) (Jk2 : own_J Z h0 kl2 k2) (Jc2 : own_J Z h0 vl2 c2) (hnd : own_mx (1 : Int64) ((((3 : Int64) * (pp.toInt64)) + (99 : Int64)) / (100 : Int64)) = nd) (hs : ¬ (((0 : Int64) + c1) + c2) < nd) :
    Does l Z n0 ⟨"com/example/bounded_lock/boundedlock/cli/RoundTimes", "percentile", "(I)J"⟩ prog_2_method_5_code 8 (some .long) [] { frames := 5, cells := 2, slots := 5, locals := 64 } #[(.ref rt), (.int pp)] h0 (fun v h => v = some (.long (own_pc nd 0 [(k1, c1), (k2, c2)])) ∧ ∃ ev, own_RT Z n0 h rt 3 ev [(k1, c1), (k2, c2)]) := by
  refine Does.start (plainFor_of_name pn_7) ?_
  intro p e s m below meth c T X
  replace X : Sd _ _ _ _ _ "com/example/bounded_lock/boundedlock/cli/RoundTimes" "percentile" _ _ _ _ _ _ _ _ _ _ _ _ _ _ _ _ := X
  refine Wp.cast (g' := mkF m 0 #[.val (.ref rt), .val (.int pp), .unset, .unset, .unset, .unset, .unset, .unset] []) (by first | (simp [entryFrame, mkF, argsToLocals, Value.category, maxLocals]; done) | rfl) ?_
  refine w_lconst X (1 : Int64) q2_5_0 rfl ?_
  refine w_aloadN X q2_5_1 rfl (rfl) ?_
  refine w_getF X q2_5_2 (host := "") (Or.inl (wd_120 hw)) Via.refl Fr (fun T X => ?_)
  refine w_iloadN X q2_5_5 rfl ?_
  refine w_i2l X q2_5_6 ?_
  refine w_lmul X q2_5_7 ?_
  refine w_ldc2J X q2_5_8 (wd_170 hw) ?_
  refine w_ladd X q2_5_11 ?_
  refine w_ldc2J X q2_5_12 (wd_171 hw) ?_
  refine w_ldiv X q2_5_15 (by decide) ?_
  refine w_callS X q2_5_16 (wd_172 hw) (wd_12 hw) (wd_9 hw) (wd_13 hw) (by decide) (argsL := [(.long (1 : Int64)), (.long ((((3 : Int64) * (pp.toInt64)) + (99 : Int64)) / (100 : Int64)))]) (S := []) (m_mx hw hnd) pd_21 rfl rfl rfl (by decide) (leR rfl) (by decide) (by decide) (fun T h1 v1 L1 X q1 => ?_)
  obtain ⟨rfl, rfl⟩ := q1
  show Wp _ _ _ _ (T.setTop (mkF _ _ _ [(.long nd)]))
  refine w_lstoreN X #[.val (.ref rt), .val (.int pp), .val (.long nd), .second, .unset, .unset, .unset, .unset] q2_5_19 rfl ?_
  refine w_lconst X (0 : Int64) q2_5_20 rfl ?_
  refine w_lstore X #[.val (.ref rt), .val (.int pp), .val (.long nd), .second, .val (.long (0 : Int64)), .second, .unset, .unset] q2_5_21 rfl ?_
  refine w_aloadN X q2_5_23 rfl (rfl) ?_
  refine w_getF X q2_5_24 (host := "") (Or.inl (wd_42 hw)) Via.refl Fc (fun T X => ?_)
  have mq1 : own_M Z n0 h0 tm (.ref er) ev sz mc := ⟨M0.1, M0.2.1, M0.2.2.1, M0.2.2.2.1, M0.2.2.2.2.1, M0.2.2.2.2.2.1, M0.2.2.2.2.2.2⟩
  refine w_callV X q2_5_27 (wd_173 hw) (wd_174 hw) (notFace_of_selects (args := #[]) (mvT X.hZ (wd_176 hw))) (wd_176 hw) (wd_175 hw) (wd_25 hw) (wd_177 hw) (by decide) M0.2.1 (argsL := []) (S := []) (m_es hw mq1 H0) pd_22 rfl rfl rfl (by decide) (leR rfl) (by decide) (by decide) (fun T h2 v2 L2 X q2 => ?_)
  obtain ⟨es2, rfl, M_2, Ee2, Fe2, Kc2⟩ := q2
  have K2 : Keep h0 h2 [tm] := (Keep.refl h0 [tm]).trans Kc2 (fun x hx => by cases List.mem_singleton.mp hx; exact (Or.inl (List.mem_of_getElem? (i := 0) rfl)))
  show Wp _ _ _ _ (T.setTop (mkF _ _ _ [(.ref es2)]))
  have f3 := (N_er.2.1.keep Kc2)
  have f4 := (N_er.2.2.2.2.1.keep Kc2 (ni1 (Exa.ne f3 M_2.2.1 (by decide))))
  refine w_callN X q2_5_30 (wd_202 hw) (wd_203 hw) (wd_204 hw) (wd_205 hw) (wd_206 hw) (wd_207 hw) (wd_208 hw) (wd_209 hw) (wd_182 hw) (wd_210 hw) (by decide) Ee2 (argsL := []) (S := []) (m_it1 hw Ee2 Fe2 M_2.2.1 M_2.2.2.1 M_2.2.2.2.2.1 f4) pd_23 rfl rfl rfl (by decide) (leR rfl) (by decide) (by decide) (fun T h3 v3 L3 X q3 => ?_)
  obtain ⟨it3, rfl, gi3, I_3, Kc3⟩ := q3
  have K5 : Keep h0 h3 [tm] := K2.trans Kc3 (fun x hx => nomatch hx)
  have sz_it3 : h0.size ≤ it3 := Nat.le_trans K2.1 gi3
  show Wp _ _ _ _ (T.setTop (mkF _ _ _ [(.ref it3)]))
  refine w_astore X #[.val (.ref rt), .val (.int pp), .val (.long nd), .second, .val (.long (0 : Int64)), .second, .val (.ref it3), .unset] q2_5_35 (rfl) rfl ?_
  refine w_aload X q2_5_37 rfl (rfl) ?_
  refine w_callN X q2_5_39 (wd_241 hw) (wd_242 hw) (wd_243 hw) (wd_244 hw) (wd_245 hw) (wd_246 hw) (wd_247 hw) (wd_248 hw) (wd_229 hw) (wd_249 hw) (by decide) I_3.2.1 (argsL := []) (S := []) (m_hnr hw I_3.2.2.2.2.2) pd_24 rfl rfl rfl (by decide) (leR rfl) (by decide) (by decide) (fun T h4 v4 L4 X q4 => ?_)
  obtain ⟨rfl, rfl⟩ := q4
  show Wp _ _ _ _ (T.setTop (mkF _ _ _ [(.int (1 : Int32))]))
  refine w_ifeq X q2_5_44 (fun hc => absurd hc (by decide)) (fun _ => ?_)
  refine w_aload X q2_5_47 rfl (rfl) ?_
  have f6 := (f3.keep Kc3)
  have f7 := (M_2.2.1.keep Kc3)
  have f8 := ((N_er.2.2.2.2.2.1.keep Kc2 (ni1 (Exa.ne f6 f7 (by decide)))).keep Kc3 (List.not_mem_nil))
  have f9 := ((N_el.2.1.keep Kc2).keep Kc3)
  have f10 := ((N_el.2.2.2.2.1.keep Kc2 (ni1 (Exa.ne f9 f7 (by decide)))).keep Kc3 (List.not_mem_nil))
  have iq11 : own_I Z n0 h3 it3 tm mc .null (.ref er) := ⟨I_3.1, I_3.2.1, I_3.2.2.1, I_3.2.2.2.1, I_3.2.2.2.2.1, I_3.2.2.2.2.2⟩
  have f12 := (M_2.2.2.2.2.1.keep Kc3 (List.not_mem_nil))
  refine w_callN X q2_5_49 (wd_250 hw) (wd_251 hw) (wd_252 hw) (wd_253 hw) (wd_254 hw) (wd_255 hw) (wd_256 hw) (wd_248 hw) (wd_213 hw) (wd_257 hw) (by decide) I_3.2.1 (argsL := []) (S := []) (m_nxor hw iq11 f12 (m_suC hw f8 f10)) pd_25 rfl rfl rfl (by decide) (leR rfl) (by decide) (by decide) (fun T h5 v5 L5 X q5 => ?_)
  obtain ⟨rfl, I_5, Kc5⟩ := q5
  have K13 : Keep h0 h5 [tm] := K5.trans Kc5 (fun x hx => by cases List.mem_singleton.mp hx; exact (Or.inr sz_it3))
  show Wp _ _ _ _ (T.setTop (mkF _ _ _ [(.ref er)]))
  have f14 := (f6.keep Kc5)
  refine w_cast X q2_5_54 (wd_272 hw) (Ins.of_exa f14 (wd_273 hw)) (fun T X => ?_)
  refine w_astore X #[.val (.ref rt), .val (.int pp), .val (.long nd), .second, .val (.long (0 : Int64)), .second, .val (.ref it3), .val (.ref er)] q2_5_57 (rfl) rfl ?_
  refine w_lload X q2_5_59 rfl ?_
  refine w_aload X q2_5_61 rfl (rfl) ?_
  have f15 := (f7.keep Kc5)
  have f16 := (((N_er.2.2.2.1.keep Kc2 (ni1 (Exa.ne f14 f15 (by decide)))).keep Kc3 (List.not_mem_nil)).keep Kc5 (ni1 (Exa.ne f14 I_5.2.1 (by decide))))
  refine w_callN X q2_5_63 (wd_274 hw) (wd_275 hw) (wd_276 hw) (wd_277 hw) (wd_278 hw) (wd_279 hw) (wd_280 hw) (wd_273 hw) (wd_106 hw) (wd_281 hw) (by decide) f14 (argsL := []) (S := [(.long (0 : Int64))]) (m_getValue hw f16) pd_25 rfl rfl rfl (by decide) (leR rfl) (by decide) (by decide) (fun T h6 v6 L6 X q6 => ?_)
  obtain ⟨rfl, rfl⟩ := q6
  show Wp _ _ _ _ (T.setTop (mkF _ _ _ [(.ref vl1), (.long (0 : Int64))]))
  have f17 := (((Jc1.1.keep Kc2).keep Kc3).keep Kc5)
  refine w_cast X q2_5_68 (wd_282 hw) (Ins.self f17) (fun T X => ?_)
  have f18 := (((Jc1.2.keep Kc2 (ni1 (Exa.ne f17 f15 (by decide)))).keep Kc3 (List.not_mem_nil)).keep Kc5 (ni1 (Exa.ne f17 I_5.2.1 (by decide))))
  have jq19 : own_J Z h5 vl1 c1 := ⟨f17, f18⟩
  refine w_callV X q2_5_71 (wd_283 hw) (wd_284 hw) (notFace_of_selects (args := #[]) (mvT X.hZ (wd_286 hw))) (wd_286 hw) (wd_285 hw) (wd_53 hw) (wd_287 hw) (by decide) f17 (argsL := []) (S := [(.long (0 : Int64))]) (m_lv hw jq19) pd_26 rfl rfl rfl (by decide) (leR rfl) (by decide) (by decide) (fun T h7 v7 L7 X q7 => ?_)
  obtain ⟨rfl, rfl⟩ := q7
  show Wp _ _ _ _ (T.setTop (mkF _ _ _ [(.long c1), (.long (0 : Int64))]))
  refine w_ladd X q2_5_74 ?_
  refine w_lstore X #[.val (.ref rt), .val (.int pp), .val (.long nd), .second, .val (.long ((0 : Int64) + c1)), .second, .val (.ref it3), .val (.ref er)] q2_5_75 rfl ?_
  refine w_lload X q2_5_77 rfl ?_
  refine w_lloadN X q2_5_79 rfl ?_
  refine w_llt X q2_5_80 q2_5_81 (fun (hc81 : ((0 : Int64) + c1) < nd) => ?_) (fun (hc81 : ¬ ((0 : Int64) + c1) < nd) => ?_)
  · refine w_goto X q2_5_98 ?_
    refine w_aload X q2_5_37 rfl (rfl) ?_
    refine w_callN X q2_5_39 (wd_241 hw) (wd_242 hw) (wd_243 hw) (wd_244 hw) (wd_245 hw) (wd_246 hw) (wd_247 hw) (wd_248 hw) (wd_229 hw) (wd_249 hw) (by decide) I_5.2.1 (argsL := []) (S := []) (m_hnr hw I_5.2.2.2.2.2) pd_24 rfl rfl rfl (by decide) (leR rfl) (by decide) (by decide) (fun T h8 v8 L8 X q8 => ?_)
    obtain ⟨rfl, rfl⟩ := q8
    show Wp _ _ _ _ (T.setTop (mkF _ _ _ [(.int (1 : Int32))]))
    refine w_ifeq X q2_5_44 (fun hc => absurd hc (by decide)) (fun _ => ?_)
    refine w_aload X q2_5_47 rfl (rfl) ?_
    have f20 := (f9.keep Kc5)
    have f21 := (((N_el.2.2.2.2.2.1.keep Kc2 (ni1 (Exa.ne f20 f15 (by decide)))).keep Kc3 (List.not_mem_nil)).keep Kc5 (ni1 (Exa.ne f20 I_5.2.1 (by decide))))
    have f22 := (((N_el.2.2.2.2.2.2.1.keep Kc2 (ni1 (Exa.ne f20 f15 (by decide)))).keep Kc3 (List.not_mem_nil)).keep Kc5 (ni1 (Exa.ne f20 I_5.2.1 (by decide))))
    have f23 := (f8.keep Kc5 (ni1 (Exa.ne f14 I_5.2.1 (by decide))))
    have f24 := (((N_er.2.2.2.2.2.2.1.keep Kc2 (ni1 (Exa.ne f14 f15 (by decide)))).keep Kc3 (List.not_mem_nil)).keep Kc5 (ni1 (Exa.ne f14 I_5.2.1 (by decide))))
    have iq25 : own_I Z n0 h5 it3 tm mc (.ref er) (.ref el) := ⟨I_5.1, I_5.2.1, I_5.2.2.1, I_5.2.2.2.1, I_5.2.2.2.2.1, I_5.2.2.2.2.2⟩
    have f26 := (f12.keep Kc5 (ni1 (Exa.ne f15 I_5.2.1 (by decide))))
    refine w_callN X q2_5_49 (wd_250 hw) (wd_251 hw) (wd_252 hw) (wd_253 hw) (wd_254 hw) (wd_255 hw) (wd_256 hw) (wd_248 hw) (wd_213 hw) (wd_257 hw) (by decide) I_5.2.1 (argsL := []) (S := []) (m_nxon hw iq25 f26 (m_suD hw f21 f22 f23 f24)) pd_25 rfl rfl rfl (by decide) (leR rfl) (by decide) (by decide) (fun T h9 v9 L9 X q9 => ?_)
    obtain ⟨rfl, I_9, Kc9⟩ := q9
    have K27 : Keep h0 h9 [tm] := K13.trans Kc9 (fun x hx => by cases List.mem_singleton.mp hx; exact (Or.inr sz_it3))
    show Wp _ _ _ _ (T.setTop (mkF _ _ _ [(.ref el)]))
    have f28 := (f20.keep Kc9)
    refine w_cast X q2_5_54 (wd_272 hw) (Ins.of_exa f28 (wd_273 hw)) (fun T X => ?_)
    refine w_astore X #[.val (.ref rt), .val (.int pp), .val (.long nd), .second, .val (.long ((0 : Int64) + c1)), .second, .val (.ref it3), .val (.ref el)] q2_5_57 (rfl) rfl ?_
    refine w_lload X q2_5_59 rfl ?_
    refine w_aload X q2_5_61 rfl (rfl) ?_
    have f29 := (f15.keep Kc9)
    have f30 := ((((N_el.2.2.2.1.keep Kc2 (ni1 (Exa.ne f28 f29 (by decide)))).keep Kc3 (List.not_mem_nil)).keep Kc5 (ni1 (Exa.ne f28 I_9.2.1 (by decide)))).keep Kc9 (ni1 (Exa.ne f28 I_9.2.1 (by decide))))
    refine w_callN X q2_5_63 (wd_274 hw) (wd_275 hw) (wd_276 hw) (wd_277 hw) (wd_278 hw) (wd_279 hw) (wd_280 hw) (wd_273 hw) (wd_106 hw) (wd_281 hw) (by decide) f28 (argsL := []) (S := [(.long ((0 : Int64) + c1))]) (m_getValue hw f30) pd_25 rfl rfl rfl (by decide) (leR rfl) (by decide) (by decide) (fun T h10 v10 L10 X q10 => ?_)
    obtain ⟨rfl, rfl⟩ := q10
    show Wp _ _ _ _ (T.setTop (mkF _ _ _ [(.ref vl2), (.long ((0 : Int64) + c1))]))
    have f31 := ((((Jc2.1.keep Kc2).keep Kc3).keep Kc5).keep Kc9)
    refine w_cast X q2_5_68 (wd_282 hw) (Ins.self f31) (fun T X => ?_)
    have f32 := ((((Jc2.2.keep Kc2 (ni1 (Exa.ne f31 f29 (by decide)))).keep Kc3 (List.not_mem_nil)).keep Kc5 (ni1 (Exa.ne f31 I_9.2.1 (by decide)))).keep Kc9 (ni1 (Exa.ne f31 I_9.2.1 (by decide))))
    have jq33 : own_J Z h9 vl2 c2 := ⟨f31, f32⟩
    refine w_callV X q2_5_71 (wd_283 hw) (wd_284 hw) (notFace_of_selects (args := #[]) (mvT X.hZ (wd_286 hw))) (wd_286 hw) (wd_285 hw) (wd_53 hw) (wd_287 hw) (by decide) f31 (argsL := []) (S := [(.long ((0 : Int64) + c1))]) (m_lv hw jq33) pd_26 rfl rfl rfl (by decide) (leR rfl) (by decide) (by decide) (fun T h11 v11 L11 X q11 => ?_)
    obtain ⟨rfl, rfl⟩ := q11
    show Wp _ _ _ _ (T.setTop (mkF _ _ _ [(.long c2), (.long ((0 : Int64) + c1))]))
    refine w_ladd X q2_5_74 ?_
    refine w_lstore X #[.val (.ref rt), .val (.int pp), .val (.long nd), .second, .val (.long (((0 : Int64) + c1) + c2)), .second, .val (.ref it3), .val (.ref el)] q2_5_75 rfl ?_
    refine w_lload X q2_5_77 rfl ?_
    refine w_lloadN X q2_5_79 rfl ?_
    refine w_llt X q2_5_80 q2_5_81 (fun hc => absurd hc hs) (fun _ => ?_)
    refine w_aload X q2_5_84 rfl (rfl) ?_
    have f34 := ((((N_el.2.2.1.keep Kc2 (ni1 (Exa.ne f28 f29 (by decide)))).keep Kc3 (List.not_mem_nil)).keep Kc5 (ni1 (Exa.ne f28 I_9.2.1 (by decide)))).keep Kc9 (ni1 (Exa.ne f28 I_9.2.1 (by decide))))
    refine w_callN X q2_5_86 (wd_288 hw) (wd_289 hw) (wd_290 hw) (wd_291 hw) (wd_292 hw) (wd_293 hw) (wd_294 hw) (wd_273 hw) (wd_106 hw) (wd_295 hw) (by decide) f28 (argsL := []) (S := []) (m_getKey hw f34) pd_25 rfl rfl rfl (by decide) (leR rfl) (by decide) (by decide) (fun T h12 v12 L12 X q12 => ?_)
    obtain ⟨rfl, rfl⟩ := q12
    show Wp _ _ _ _ (T.setTop (mkF _ _ _ [(.ref kl2)]))
    have f35 := ((((Jk2.1.keep Kc2).keep Kc3).keep Kc5).keep Kc9)
    refine w_cast X q2_5_91 (wd_282 hw) (Ins.self f35) (fun T X => ?_)
    have f36 := ((((Jk2.2.keep Kc2 (ni1 (Exa.ne f35 f29 (by decide)))).keep Kc3 (List.not_mem_nil)).keep Kc5 (ni1 (Exa.ne f35 I_9.2.1 (by decide)))).keep Kc9 (ni1 (Exa.ne f35 I_9.2.1 (by decide))))
    have jq37 : own_J Z h9 kl2 k2 := ⟨f35, f36⟩
    refine w_callV X q2_5_94 (wd_283 hw) (wd_284 hw) (notFace_of_selects (args := #[]) (mvT X.hZ (wd_286 hw))) (wd_286 hw) (wd_285 hw) (wd_53 hw) (wd_287 hw) (by decide) f35 (argsL := []) (S := []) (m_lv hw jq37) pd_26 rfl rfl rfl (by decide) (leR rfl) (by decide) (by decide) (fun T h13 v13 L13 X q13 => ?_)
    obtain ⟨rfl, rfl⟩ := q13
    show Wp _ _ _ _ (T.setTop (mkF _ _ _ [(.long k2)]))
    have f38 := (((M_2.2.2.1.keep Kc3 (List.not_mem_nil)).keep Kc5 (ni1 (Exa.ne f29 I_9.2.1 (by decide)))).keep Kc9 (ni1 (Exa.ne f29 I_9.2.1 (by decide))))
    have f39 := (((M_2.2.2.2.1.keep Kc3 (List.not_mem_nil)).keep Kc5 (ni1 (Exa.ne f29 I_9.2.1 (by decide)))).keep Kc9 (ni1 (Exa.ne f29 I_9.2.1 (by decide))))
    have f40 := (f26.keep Kc9 (ni1 (Exa.ne f29 I_9.2.1 (by decide))))
    have f41 := (((M_2.2.2.2.2.2.1.keep Kc3 (List.not_mem_nil)).keep Kc5 (ni1 (Exa.ne f29 I_9.2.1 (by decide)))).keep Kc9 (ni1 (Exa.ne f29 I_9.2.1 (by decide))))
    have f42 := (((M_2.2.2.2.2.2.2.keep Kc3 (List.not_mem_nil)).keep Kc5 (ni1 (Exa.ne f29 I_9.2.1 (by decide)))).keep Kc9 (ni1 (Exa.ne f29 I_9.2.1 (by decide))))
    have f43 := (((Ee2.keep Kc3).keep Kc5).keep Kc9)
    have f44 := (((Fe2.keep Kc3 (List.not_mem_nil)).keep Kc5 (ni1 (Exa.ne f43 I_9.2.1 (by decide)))).keep Kc9 (ni1 (Exa.ne f43 I_9.2.1 (by decide))))
    have f45 := ((((Ert.keep Kc2).keep Kc3).keep Kc5).keep Kc9)
    have f46 := ((((Fc.keep Kc2 (ni1 (Exa.ne f45 f29 (by decide)))).keep Kc3 (List.not_mem_nil)).keep Kc5 (ni1 (Exa.ne f45 I_9.2.1 (by decide)))).keep Kc9 (ni1 (Exa.ne f45 I_9.2.1 (by decide))))
    have f47 := ((((Fr.keep Kc2 (ni1 (Exa.ne f45 f29 (by decide)))).keep Kc3 (List.not_mem_nil)).keep Kc5 (ni1 (Exa.ne f45 I_9.2.1 (by decide)))).keep Kc9 (ni1 (Exa.ne f45 I_9.2.1 (by decide))))
    exact w_retJ X q2_5_97 ⟨by rw [own_pc, if_pos hc81, own_pc, if_neg hs], _, ⟨tm, grt, f45, f46, f47, ⟨_, _, _, ⟨M_2.1, f29, f38, f39, f40, f41, f42⟩, S0.kp K27 (own_ok1 f29 (by decide) (by decide))⟩, Or.inr ⟨es2, rfl, f43, f44⟩⟩⟩ (by decide) (by decide)
  · refine w_aload X q2_5_84 rfl (rfl) ?_
    have f48 := (((N_er.2.2.1.keep Kc2 (ni1 (Exa.ne f14 f15 (by decide)))).keep Kc3 (List.not_mem_nil)).keep Kc5 (ni1 (Exa.ne f14 I_5.2.1 (by decide))))
    refine w_callN X q2_5_86 (wd_288 hw) (wd_289 hw) (wd_290 hw) (wd_291 hw) (wd_292 hw) (wd_293 hw) (wd_294 hw) (wd_273 hw) (wd_106 hw) (wd_295 hw) (by decide) f14 (argsL := []) (S := []) (m_getKey hw f48) pd_25 rfl rfl rfl (by decide) (leR rfl) (by decide) (by decide) (fun T h14 v14 L14 X q14 => ?_)
    obtain ⟨rfl, rfl⟩ := q14
    show Wp _ _ _ _ (T.setTop (mkF _ _ _ [(.ref kl1)]))
    have f49 := (((Jk1.1.keep Kc2).keep Kc3).keep Kc5)
    refine w_cast X q2_5_91 (wd_282 hw) (Ins.self f49) (fun T X => ?_)
    have f50 := (((Jk1.2.keep Kc2 (ni1 (Exa.ne f49 f15 (by decide)))).keep Kc3 (List.not_mem_nil)).keep Kc5 (ni1 (Exa.ne f49 I_5.2.1 (by decide))))
    have jq51 : own_J Z h5 kl1 k1 := ⟨f49, f50⟩
    refine w_callV X q2_5_94 (wd_283 hw) (wd_284 hw) (notFace_of_selects (args := #[]) (mvT X.hZ (wd_286 hw))) (wd_286 hw) (wd_285 hw) (wd_53 hw) (wd_287 hw) (by decide) f49 (argsL := []) (S := []) (m_lv hw jq51) pd_26 rfl rfl rfl (by decide) (leR rfl) (by decide) (by decide) (fun T h15 v15 L15 X q15 => ?_)
    obtain ⟨rfl, rfl⟩ := q15
    show Wp _ _ _ _ (T.setTop (mkF _ _ _ [(.long k1)]))
    have f52 := ((M_2.2.2.1.keep Kc3 (List.not_mem_nil)).keep Kc5 (ni1 (Exa.ne f15 I_5.2.1 (by decide))))
    have f53 := ((M_2.2.2.2.1.keep Kc3 (List.not_mem_nil)).keep Kc5 (ni1 (Exa.ne f15 I_5.2.1 (by decide))))
    have f54 := (f12.keep Kc5 (ni1 (Exa.ne f15 I_5.2.1 (by decide))))
    have f55 := ((M_2.2.2.2.2.2.1.keep Kc3 (List.not_mem_nil)).keep Kc5 (ni1 (Exa.ne f15 I_5.2.1 (by decide))))
    have f56 := ((M_2.2.2.2.2.2.2.keep Kc3 (List.not_mem_nil)).keep Kc5 (ni1 (Exa.ne f15 I_5.2.1 (by decide))))
    have f57 := ((Ee2.keep Kc3).keep Kc5)
    have f58 := ((Fe2.keep Kc3 (List.not_mem_nil)).keep Kc5 (ni1 (Exa.ne f57 I_5.2.1 (by decide))))
    have f59 := (((Ert.keep Kc2).keep Kc3).keep Kc5)
    have f60 := (((Fc.keep Kc2 (ni1 (Exa.ne f59 f15 (by decide)))).keep Kc3 (List.not_mem_nil)).keep Kc5 (ni1 (Exa.ne f59 I_5.2.1 (by decide))))
    have f61 := (((Fr.keep Kc2 (ni1 (Exa.ne f59 f15 (by decide)))).keep Kc3 (List.not_mem_nil)).keep Kc5 (ni1 (Exa.ne f59 I_5.2.1 (by decide))))
    exact w_retJ X q2_5_97 ⟨by rw [own_pc, if_neg hc81], _, ⟨tm, grt, f59, f60, f61, ⟨_, _, _, ⟨M_2.1, f15, f52, f53, f54, f55, f56⟩, S0.kp K13 (own_ok1 f15 (by decide) (by decide))⟩, Or.inr ⟨es2, rfl, f57, f58⟩⟩⟩ (by decide) (by decide)
theorem m_pc3 (hw : own_hw a0 Z) {h0 : Heap} {rt tm er el eq kl1 vl1 kl2 vl2 kl3 vl3 : Addr} {pp : Int32} {nd k1 c1 k2 c2 k3 c3 : Int64} {ev : Value} {sz mc : Int32} (grt : n0 ≤ rt) (Ert : Exa Z h0 rt "com/example/bounded_lock/boundedlock/cli/RoundTimes") (Fc : Fld Z h0 rt "com/example/bounded_lock/boundedlock/cli/RoundTimes" "counts" "Ljava/util/TreeMap;" (.ref tm)) (Fr : Fld Z h0 rt "com/example/bounded_lock/boundedlock/cli/RoundTimes" "rounds" "J" (.long 3)) (M0 : own_M Z n0 h0 tm (.ref er) ev sz mc) (H0 : own_Es Z h0 tm ev) (S0 : own_Sh Z n0 h0 (.ref er) [(k1, c1), (k2, c2), (k3, c3)]) (N_er : own_N Z n0 h0 er (.ref kl2) (.ref vl2) (.ref el) (.ref eq) .null (1 : Int32)) (N_el : own_N Z n0 h0 el (.ref kl1) (.ref vl1) .null .null (.ref er) (0 : Int32)) (N_eq : own_N Z n0 h0 eq (.ref kl3) (.ref vl3) .null .null (.ref er) (0 : Int32)) (Jk1 : own_J Z h0 kl1 k1) (Jc1 : own_J Z h0 vl1 c1) (Jk2 : own_J Z h0 kl2 k2) (Jc2 : own_J Z h0 vl2 c2) (Jk3 : own_J Z h0 kl3 k3) (Jc3 : own_J Z h0 vl3 c3) (nlq : el ≠ eq) (hnd : own_mx (1 : Int64) ((((3 : Int64) * (pp.toInt64)) + (99 : Int64)) / (100 : Int64)) = nd) (hs : ¬ ((((0 : Int64) + c1) + c2) + c3) < nd) :
    Does l Z n0 ⟨"com/example/bounded_lock/boundedlock/cli/RoundTimes", "percentile", "(I)J"⟩ prog_2_method_5_code 8 (some .long) [] { frames := 5, cells := 2, slots := 5, locals := 64 } #[(.ref rt), (.int pp)] h0 (fun v h => v = some (.long (own_pc nd 0 [(k1, c1), (k2, c2), (k3, c3)])) ∧ ∃ ev, own_RT Z n0 h rt 3 ev [(k1, c1), (k2, c2), (k3, c3)]) := by
  refine Does.start (plainFor_of_name pn_7) ?_
  intro p e s m below meth c T X
  replace X : Sd _ _ _ _ _ "com/example/bounded_lock/boundedlock/cli/RoundTimes" "percentile" _ _ _ _ _ _ _ _ _ _ _ _ _ _ _ _ := X
  refine Wp.cast (g' := mkF m 0 #[.val (.ref rt), .val (.int pp), .unset, .unset, .unset, .unset, .unset, .unset] []) (by first | (simp [entryFrame, mkF, argsToLocals, Value.category, maxLocals]; done) | rfl) ?_
  refine w_lconst X (1 : Int64) q2_5_0 rfl ?_
  refine w_aloadN X q2_5_1 rfl (rfl) ?_
  refine w_getF X q2_5_2 (host := "") (Or.inl (wd_120 hw)) Via.refl Fr (fun T X => ?_)
  refine w_iloadN X q2_5_5 rfl ?_
  refine w_i2l X q2_5_6 ?_
  refine w_lmul X q2_5_7 ?_
  refine w_ldc2J X q2_5_8 (wd_170 hw) ?_
  refine w_ladd X q2_5_11 ?_
  refine w_ldc2J X q2_5_12 (wd_171 hw) ?_
  refine w_ldiv X q2_5_15 (by decide) ?_
  refine w_callS X q2_5_16 (wd_172 hw) (wd_12 hw) (wd_9 hw) (wd_13 hw) (by decide) (argsL := [(.long (1 : Int64)), (.long ((((3 : Int64) * (pp.toInt64)) + (99 : Int64)) / (100 : Int64)))]) (S := []) (m_mx hw hnd) pd_21 rfl rfl rfl (by decide) (leR rfl) (by decide) (by decide) (fun T h1 v1 L1 X q1 => ?_)
  obtain ⟨rfl, rfl⟩ := q1
  show Wp _ _ _ _ (T.setTop (mkF _ _ _ [(.long nd)]))
  refine w_lstoreN X #[.val (.ref rt), .val (.int pp), .val (.long nd), .second, .unset, .unset, .unset, .unset] q2_5_19 rfl ?_
  refine w_lconst X (0 : Int64) q2_5_20 rfl ?_
  refine w_lstore X #[.val (.ref rt), .val (.int pp), .val (.long nd), .second, .val (.long (0 : Int64)), .second, .unset, .unset] q2_5_21 rfl ?_
  refine w_aloadN X q2_5_23 rfl (rfl) ?_
  refine w_getF X q2_5_24 (host := "") (Or.inl (wd_42 hw)) Via.refl Fc (fun T X => ?_)
  have mq1 : own_M Z n0 h0 tm (.ref er) ev sz mc := ⟨M0.1, M0.2.1, M0.2.2.1, M0.2.2.2.1, M0.2.2.2.2.1, M0.2.2.2.2.2.1, M0.2.2.2.2.2.2⟩
  refine w_callV X q2_5_27 (wd_173 hw) (wd_174 hw) (notFace_of_selects (args := #[]) (mvT X.hZ (wd_176 hw))) (wd_176 hw) (wd_175 hw) (wd_25 hw) (wd_177 hw) (by decide) M0.2.1 (argsL := []) (S := []) (m_es hw mq1 H0) pd_22 rfl rfl rfl (by decide) (leR rfl) (by decide) (by decide) (fun T h2 v2 L2 X q2 => ?_)
  obtain ⟨es2, rfl, M_2, Ee2, Fe2, Kc2⟩ := q2
  have K2 : Keep h0 h2 [tm] := (Keep.refl h0 [tm]).trans Kc2 (fun x hx => by cases List.mem_singleton.mp hx; exact (Or.inl (List.mem_of_getElem? (i := 0) rfl)))
  show Wp _ _ _ _ (T.setTop (mkF _ _ _ [(.ref es2)]))
  have f3 := (N_er.2.1.keep Kc2)
  have f4 := (N_er.2.2.2.2.1.keep Kc2 (ni1 (Exa.ne f3 M_2.2.1 (by decide))))
  have f5 := (N_el.2.1.keep Kc2)
  have f6 := (N_el.2.2.2.2.1.keep Kc2 (ni1 (Exa.ne f5 M_2.2.1 (by decide))))
  refine w_callN X q2_5_30 (wd_202 hw) (wd_203 hw) (wd_204 hw) (wd_205 hw) (wd_206 hw) (wd_207 hw) (wd_208 hw) (wd_209 hw) (wd_182 hw) (wd_210 hw) (by decide) Ee2 (argsL := []) (S := []) (m_it2 hw Ee2 Fe2 M_2.2.1 M_2.2.2.1 M_2.2.2.2.2.1 f4 f6) pd_23 rfl rfl rfl (by decide) (leR rfl) (by decide) (by decide) (fun T h3 v3 L3 X q3 => ?_)
  obtain ⟨it3, rfl, gi3, I_3, Kc3⟩ := q3
  have K7 : Keep h0 h3 [tm] := K2.trans Kc3 (fun x hx => nomatch hx)
  have sz_it3 : h0.size ≤ it3 := Nat.le_trans K2.1 gi3
  show Wp _ _ _ _ (T.setTop (mkF _ _ _ [(.ref it3)]))
  refine w_astore X #[.val (.ref rt), .val (.int pp), .val (.long nd), .second, .val (.long (0 : Int64)), .second, .val (.ref it3), .unset] q2_5_35 (rfl) rfl ?_
  refine w_aload X q2_5_37 rfl (rfl) ?_
  refine w_callN X q2_5_39 (wd_241 hw) (wd_242 hw) (wd_243 hw) (wd_244 hw) (wd_245 hw) (wd_246 hw) (wd_247 hw) (wd_248 hw) (wd_229 hw) (wd_249 hw) (by decide) I_3.2.1 (argsL := []) (S := []) (m_hnr hw I_3.2.2.2.2.2) pd_24 rfl rfl rfl (by decide) (leR rfl) (by decide) (by decide) (fun T h4 v4 L4 X q4 => ?_)
  obtain ⟨rfl, rfl⟩ := q4
  show Wp _ _ _ _ (T.setTop (mkF _ _ _ [(.int (1 : Int32))]))
  refine w_ifeq X q2_5_44 (fun hc => absurd hc (by decide)) (fun _ => ?_)
  refine w_aload X q2_5_47 rfl (rfl) ?_
  have f8 := (f5.keep Kc3)
  have f9 := (M_2.2.1.keep Kc3)
  have f10 := ((N_el.2.2.2.2.2.1.keep Kc2 (ni1 (Exa.ne f8 f9 (by decide)))).keep Kc3 (List.not_mem_nil))
  have f11 := ((N_el.2.2.2.2.2.2.1.keep Kc2 (ni1 (Exa.ne f8 f9 (by decide)))).keep Kc3 (List.not_mem_nil))
  have f12 := (f3.keep Kc3)
  have f13 := ((N_er.2.2.2.2.2.1.keep Kc2 (ni1 (Exa.ne f12 f9 (by decide)))).keep Kc3 (List.not_mem_nil))
  have iq14 : own_I Z n0 h3 it3 tm mc .null (.ref el) := ⟨I_3.1, I_3.2.1, I_3.2.2.1, I_3.2.2.2.1, I_3.2.2.2.2.1, I_3.2.2.2.2.2⟩
  have f15 := (M_2.2.2.2.2.1.keep Kc3 (List.not_mem_nil))
  refine w_callN X q2_5_49 (wd_250 hw) (wd_251 hw) (wd_252 hw) (wd_253 hw) (wd_254 hw) (wd_255 hw) (wd_256 hw) (wd_248 hw) (wd_213 hw) (wd_257 hw) (by decide) I_3.2.1 (argsL := []) (S := []) (m_nxor hw iq14 f15 (m_suB hw (pv := (.ref eq)) rfl (own_rne nlq) f10 f11 f13)) pd_25 rfl rfl rfl (by decide) (leR rfl) (by decide) (by decide) (fun T h5 v5 L5 X q5 => ?_)
  obtain ⟨rfl, I_5, Kc5⟩ := q5
  have K16 : Keep h0 h5 [tm] := K7.trans Kc5 (fun x hx => by cases List.mem_singleton.mp hx; exact (Or.inr sz_it3))
  show Wp _ _ _ _ (T.setTop (mkF _ _ _ [(.ref el)]))
  have f17 := (f8.keep Kc5)
  refine w_cast X q2_5_54 (wd_272 hw) (Ins.of_exa f17 (wd_273 hw)) (fun T X => ?_)
  refine w_astore X #[.val (.ref rt), .val (.int pp), .val (.long nd), .second, .val (.long (0 : Int64)), .second, .val (.ref it3), .val (.ref el)] q2_5_57 (rfl) rfl ?_
  refine w_lload X q2_5_59 rfl ?_
  refine w_aload X q2_5_61 rfl (rfl) ?_
  have f18 := (f9.keep Kc5)
  have f19 := (((N_el.2.2.2.1.keep Kc2 (ni1 (Exa.ne f17 f18 (by decide)))).keep Kc3 (List.not_mem_nil)).keep Kc5 (ni1 (Exa.ne f17 I_5.2.1 (by decide))))
  refine w_callN X q2_5_63 (wd_274 hw) (wd_275 hw) (wd_276 hw) (wd_277 hw) (wd_278 hw) (wd_279 hw) (wd_280 hw) (wd_273 hw) (wd_106 hw) (wd_281 hw) (by decide) f17 (argsL := []) (S := [(.long (0 : Int64))]) (m_getValue hw f19) pd_25 rfl rfl rfl (by decide) (leR rfl) (by decide) (by decide) (fun T h6 v6 L6 X q6 => ?_)
  obtain ⟨rfl, rfl⟩ := q6
  show Wp _ _ _ _ (T.setTop (mkF _ _ _ [(.ref vl1), (.long (0 : Int64))]))
  have f20 := (((Jc1.1.keep Kc2).keep Kc3).keep Kc5)
  refine w_cast X q2_5_68 (wd_282 hw) (Ins.self f20) (fun T X => ?_)
  have f21 := (((Jc1.2.keep Kc2 (ni1 (Exa.ne f20 f18 (by decide)))).keep Kc3 (List.not_mem_nil)).keep Kc5 (ni1 (Exa.ne f20 I_5.2.1 (by decide))))
  have jq22 : own_J Z h5 vl1 c1 := ⟨f20, f21⟩
  refine w_callV X q2_5_71 (wd_283 hw) (wd_284 hw) (notFace_of_selects (args := #[]) (mvT X.hZ (wd_286 hw))) (wd_286 hw) (wd_285 hw) (wd_53 hw) (wd_287 hw) (by decide) f20 (argsL := []) (S := [(.long (0 : Int64))]) (m_lv hw jq22) pd_26 rfl rfl rfl (by decide) (leR rfl) (by decide) (by decide) (fun T h7 v7 L7 X q7 => ?_)
  obtain ⟨rfl, rfl⟩ := q7
  show Wp _ _ _ _ (T.setTop (mkF _ _ _ [(.long c1), (.long (0 : Int64))]))
  refine w_ladd X q2_5_74 ?_
  refine w_lstore X #[.val (.ref rt), .val (.int pp), .val (.long nd), .second, .val (.long ((0 : Int64) + c1)), .second, .val (.ref it3), .val (.ref el)] q2_5_75 rfl ?_
  refine w_lload X q2_5_77 rfl ?_
  refine w_lloadN X q2_5_79 rfl ?_
  refine w_llt X q2_5_80 q2_5_81 (fun (hc81 : ((0 : Int64) + c1) < nd) => ?_) (fun (hc81 : ¬ ((0 : Int64) + c1) < nd) => ?_)
  · refine w_goto X q2_5_98 ?_
    refine w_aload X q2_5_37 rfl (rfl) ?_
    refine w_callN X q2_5_39 (wd_241 hw) (wd_242 hw) (wd_243 hw) (wd_244 hw) (wd_245 hw) (wd_246 hw) (wd_247 hw) (wd_248 hw) (wd_229 hw) (wd_249 hw) (by decide) I_5.2.1 (argsL := []) (S := []) (m_hnr hw I_5.2.2.2.2.2) pd_24 rfl rfl rfl (by decide) (leR rfl) (by decide) (by decide) (fun T h8 v8 L8 X q8 => ?_)
    obtain ⟨rfl, rfl⟩ := q8
    show Wp _ _ _ _ (T.setTop (mkF _ _ _ [(.int (1 : Int32))]))
    refine w_ifeq X q2_5_44 (fun hc => absurd hc (by decide)) (fun _ => ?_)
    refine w_aload X q2_5_47 rfl (rfl) ?_
    have f23 := (f12.keep Kc5)
    have f24 := (f13.keep Kc5 (ni1 (Exa.ne f23 I_5.2.1 (by decide))))
    have f25 := (((N_eq.2.1.keep Kc2).keep Kc3).keep Kc5)
    have f26 := (((N_eq.2.2.2.2.1.keep Kc2 (ni1 (Exa.ne f25 f18 (by decide)))).keep Kc3 (List.not_mem_nil)).keep Kc5 (ni1 (Exa.ne f25 I_5.2.1 (by decide))))
    have iq27 : own_I Z n0 h5 it3 tm mc (.ref el) (.ref er) := ⟨I_5.1, I_5.2.1, I_5.2.2.1, I_5.2.2.2.1, I_5.2.2.2.2.1, I_5.2.2.2.2.2⟩
    have f28 := (f15.keep Kc5 (ni1 (Exa.ne f18 I_5.2.1 (by decide))))
    refine w_callN X q2_5_49 (wd_250 hw) (wd_251 hw) (wd_252 hw) (wd_253 hw) (wd_254 hw) (wd_255 hw) (wd_256 hw) (wd_248 hw) (wd_213 hw) (wd_257 hw) (by decide) I_5.2.1 (argsL := []) (S := []) (m_nxor hw iq27 f28 (m_suC hw f24 f26)) pd_25 rfl rfl rfl (by decide) (leR rfl) (by decide) (by decide) (fun T h9 v9 L9 X q9 => ?_)
    obtain ⟨rfl, I_9, Kc9⟩ := q9
    have K29 : Keep h0 h9 [tm] := K16.trans Kc9 (fun x hx => by cases List.mem_singleton.mp hx; exact (Or.inr sz_it3))
    show Wp _ _ _ _ (T.setTop (mkF _ _ _ [(.ref er)]))
    have f30 := (f23.keep Kc9)
    refine w_cast X q2_5_54 (wd_272 hw) (Ins.of_exa f30 (wd_273 hw)) (fun T X => ?_)
    refine w_astore X #[.val (.ref rt), .val (.int pp), .val (.long nd), .second, .val (.long ((0 : Int64) + c1)), .second, .val (.ref it3), .val (.ref er)] q2_5_57 (rfl) rfl ?_
    refine w_lload X q2_5_59 rfl ?_
    refine w_aload X q2_5_61 rfl (rfl) ?_
    have f31 := (f18.keep Kc9)
    have f32 := ((((N_er.2.2.2.1.keep Kc2 (ni1 (Exa.ne f30 f31 (by decide)))).keep Kc3 (List.not_mem_nil)).keep Kc5 (ni1 (Exa.ne f30 I_9.2.1 (by decide)))).keep Kc9 (ni1 (Exa.ne f30 I_9.2.1 (by decide))))
    refine w_callN X q2_5_63 (wd_274 hw) (wd_275 hw) (wd_276 hw) (wd_277 hw) (wd_278 hw) (wd_279 hw) (wd_280 hw) (wd_273 hw) (wd_106 hw) (wd_281 hw) (by decide) f30 (argsL := []) (S := [(.long ((0 : Int64) + c1))]) (m_getValue hw f32) pd_25 rfl rfl rfl (by decide) (leR rfl) (by decide) (by decide) (fun T h10 v10 L10 X q10 => ?_)
    obtain ⟨rfl, rfl⟩ := q10
    show Wp _ _ _ _ (T.setTop (mkF _ _ _ [(.ref vl2), (.long ((0 : Int64) + c1))]))
    have f33 := ((((Jc2.1.keep Kc2).keep Kc3).keep Kc5).keep Kc9)
    refine w_cast X q2_5_68 (wd_282 hw) (Ins.self f33) (fun T X => ?_)
    have f34 := ((((Jc2.2.keep Kc2 (ni1 (Exa.ne f33 f31 (by decide)))).keep Kc3 (List.not_mem_nil)).keep Kc5 (ni1 (Exa.ne f33 I_9.2.1 (by decide)))).keep Kc9 (ni1 (Exa.ne f33 I_9.2.1 (by decide))))
    have jq35 : own_J Z h9 vl2 c2 := ⟨f33, f34⟩
    refine w_callV X q2_5_71 (wd_283 hw) (wd_284 hw) (notFace_of_selects (args := #[]) (mvT X.hZ (wd_286 hw))) (wd_286 hw) (wd_285 hw) (wd_53 hw) (wd_287 hw) (by decide) f33 (argsL := []) (S := [(.long ((0 : Int64) + c1))]) (m_lv hw jq35) pd_26 rfl rfl rfl (by decide) (leR rfl) (by decide) (by decide) (fun T h11 v11 L11 X q11 => ?_)
    obtain ⟨rfl, rfl⟩ := q11
    show Wp _ _ _ _ (T.setTop (mkF _ _ _ [(.long c2), (.long ((0 : Int64) + c1))]))
    refine w_ladd X q2_5_74 ?_
    refine w_lstore X #[.val (.ref rt), .val (.int pp), .val (.long nd), .second, .val (.long (((0 : Int64) + c1) + c2)), .second, .val (.ref it3), .val (.ref er)] q2_5_75 rfl ?_
    refine w_lload X q2_5_77 rfl ?_
    refine w_lloadN X q2_5_79 rfl ?_
    refine w_llt X q2_5_80 q2_5_81 (fun (hc81_1 : (((0 : Int64) + c1) + c2) < nd) => ?_) (fun (hc81_1 : ¬ (((0 : Int64) + c1) + c2) < nd) => ?_)
    · refine w_goto X q2_5_98 ?_
      refine w_aload X q2_5_37 rfl (rfl) ?_
      refine w_callN X q2_5_39 (wd_241 hw) (wd_242 hw) (wd_243 hw) (wd_244 hw) (wd_245 hw) (wd_246 hw) (wd_247 hw) (wd_248 hw) (wd_229 hw) (wd_249 hw) (by decide) I_9.2.1 (argsL := []) (S := []) (m_hnr hw I_9.2.2.2.2.2) pd_24 rfl rfl rfl (by decide) (leR rfl) (by decide) (by decide) (fun T h12 v12 L12 X q12 => ?_)
      obtain ⟨rfl, rfl⟩ := q12
      show Wp _ _ _ _ (T.setTop (mkF _ _ _ [(.int (1 : Int32))]))
      refine w_ifeq X q2_5_44 (fun hc => absurd hc (by decide)) (fun _ => ?_)
      refine w_aload X q2_5_47 rfl (rfl) ?_
      have f36 := (f25.keep Kc9)
      have f37 := ((((N_eq.2.2.2.2.2.1.keep Kc2 (ni1 (Exa.ne f36 f31 (by decide)))).keep Kc3 (List.not_mem_nil)).keep Kc5 (ni1 (Exa.ne f36 I_9.2.1 (by decide)))).keep Kc9 (ni1 (Exa.ne f36 I_9.2.1 (by decide))))
      have f38 := ((((N_eq.2.2.2.2.2.2.1.keep Kc2 (ni1 (Exa.ne f36 f31 (by decide)))).keep Kc3 (List.not_mem_nil)).keep Kc5 (ni1 (Exa.ne f36 I_9.2.1 (by decide)))).keep Kc9 (ni1 (Exa.ne f36 I_9.2.1 (by decide))))
      have f39 := (f24.keep Kc9 (ni1 (Exa.ne f30 I_9.2.1 (by decide))))
      have f40 := ((((N_er.2.2.2.2.2.2.1.keep Kc2 (ni1 (Exa.ne f30 f31 (by decide)))).keep Kc3 (List.not_mem_nil)).keep Kc5 (ni1 (Exa.ne f30 I_9.2.1 (by decide)))).keep Kc9 (ni1 (Exa.ne f30 I_9.2.1 (by decide))))
      have iq41 : own_I Z n0 h9 it3 tm mc (.ref er) (.ref eq) := ⟨I_9.1, I_9.2.1, I_9.2.2.1, I_9.2.2.2.1, I_9.2.2.2.2.1, I_9.2.2.2.2.2⟩
      have f42 := (f28.keep Kc9 (ni1 (Exa.ne f31 I_9.2.1 (by decide))))
      refine w_callN X q2_5_49 (wd_250 hw) (wd_251 hw) (wd_252 hw) (wd_253 hw) (wd_254 hw) (wd_255 hw) (wd_256 hw) (wd_248 hw) (wd_213 hw) (wd_257 hw) (by decide) I_9.2.1 (argsL := []) (S := []) (m_nxon hw iq41 f42 (m_suD hw f37 f38 f39 f40)) pd_25 rfl rfl rfl (by decide) (leR rfl) (by decide) (by decide) (fun T h13 v13 L13 X q13 => ?_)
      obtain ⟨rfl, I_13, Kc13⟩ := q13
      have K43 : Keep h0 h13 [tm] := K29.trans Kc13 (fun x hx => by cases List.mem_singleton.mp hx; exact (Or.inr sz_it3))
      show Wp _ _ _ _ (T.setTop (mkF _ _ _ [(.ref eq)]))
      have f44 := (f36.keep Kc13)
      refine w_cast X q2_5_54 (wd_272 hw) (Ins.of_exa f44 (wd_273 hw)) (fun T X => ?_)
      refine w_astore X #[.val (.ref rt), .val (.int pp), .val (.long nd), .second, .val (.long (((0 : Int64) + c1) + c2)), .second, .val (.ref it3), .val (.ref eq)] q2_5_57 (rfl) rfl ?_
      refine w_lload X q2_5_59 rfl ?_
      refine w_aload X q2_5_61 rfl (rfl) ?_
      have f45 := (f31.keep Kc13)
      have f46 := (((((N_eq.2.2.2.1.keep Kc2 (ni1 (Exa.ne f44 f45 (by decide)))).keep Kc3 (List.not_mem_nil)).keep Kc5 (ni1 (Exa.ne f44 I_13.2.1 (by decide)))).keep Kc9 (ni1 (Exa.ne f44 I_13.2.1 (by decide)))).keep Kc13 (ni1 (Exa.ne f44 I_13.2.1 (by decide))))
      refine w_callN X q2_5_63 (wd_274 hw) (wd_275 hw) (wd_276 hw) (wd_277 hw) (wd_278 hw) (wd_279 hw) (wd_280 hw) (wd_273 hw) (wd_106 hw) (wd_281 hw) (by decide) f44 (argsL := []) (S := [(.long (((0 : Int64) + c1) + c2))]) (m_getValue hw f46) pd_25 rfl rfl rfl (by decide) (leR rfl) (by decide) (by decide) (fun T h14 v14 L14 X q14 => ?_)
      obtain ⟨rfl, rfl⟩ := q14
      show Wp _ _ _ _ (T.setTop (mkF _ _ _ [(.ref vl3), (.long (((0 : Int64) + c1) + c2))]))
      have f47 := (((((Jc3.1.keep Kc2).keep Kc3).keep Kc5).keep Kc9).keep Kc13)
      refine w_cast X q2_5_68 (wd_282 hw) (Ins.self f47) (fun T X => ?_)
      have f48 := (((((Jc3.2.keep Kc2 (ni1 (Exa.ne f47 f45 (by decide)))).keep Kc3 (List.not_mem_nil)).keep Kc5 (ni1 (Exa.ne f47 I_13.2.1 (by decide)))).keep Kc9 (ni1 (Exa.ne f47 I_13.2.1 (by decide)))).keep Kc13 (ni1 (Exa.ne f47 I_13.2.1 (by decide))))
      have jq49 : own_J Z h13 vl3 c3 := ⟨f47, f48⟩
      refine w_callV X q2_5_71 (wd_283 hw) (wd_284 hw) (notFace_of_selects (args := #[]) (mvT X.hZ (wd_286 hw))) (wd_286 hw) (wd_285 hw) (wd_53 hw) (wd_287 hw) (by decide) f47 (argsL := []) (S := [(.long (((0 : Int64) + c1) + c2))]) (m_lv hw jq49) pd_26 rfl rfl rfl (by decide) (leR rfl) (by decide) (by decide) (fun T h15 v15 L15 X q15 => ?_)
      obtain ⟨rfl, rfl⟩ := q15
      show Wp _ _ _ _ (T.setTop (mkF _ _ _ [(.long c3), (.long (((0 : Int64) + c1) + c2))]))
      refine w_ladd X q2_5_74 ?_
      refine w_lstore X #[.val (.ref rt), .val (.int pp), .val (.long nd), .second, .val (.long ((((0 : Int64) + c1) + c2) + c3)), .second, .val (.ref it3), .val (.ref eq)] q2_5_75 rfl ?_
      refine w_lload X q2_5_77 rfl ?_
      refine w_lloadN X q2_5_79 rfl ?_
      refine w_llt X q2_5_80 q2_5_81 (fun hc => absurd hc hs) (fun _ => ?_)
      refine w_aload X q2_5_84 rfl (rfl) ?_
      have f50 := (((((N_eq.2.2.1.keep Kc2 (ni1 (Exa.ne f44 f45 (by decide)))).keep Kc3 (List.not_mem_nil)).keep Kc5 (ni1 (Exa.ne f44 I_13.2.1 (by decide)))).keep Kc9 (ni1 (Exa.ne f44 I_13.2.1 (by decide)))).keep Kc13 (ni1 (Exa.ne f44 I_13.2.1 (by decide))))
      refine w_callN X q2_5_86 (wd_288 hw) (wd_289 hw) (wd_290 hw) (wd_291 hw) (wd_292 hw) (wd_293 hw) (wd_294 hw) (wd_273 hw) (wd_106 hw) (wd_295 hw) (by decide) f44 (argsL := []) (S := []) (m_getKey hw f50) pd_25 rfl rfl rfl (by decide) (leR rfl) (by decide) (by decide) (fun T h16 v16 L16 X q16 => ?_)
      obtain ⟨rfl, rfl⟩ := q16
      show Wp _ _ _ _ (T.setTop (mkF _ _ _ [(.ref kl3)]))
      have f51 := (((((Jk3.1.keep Kc2).keep Kc3).keep Kc5).keep Kc9).keep Kc13)
      refine w_cast X q2_5_91 (wd_282 hw) (Ins.self f51) (fun T X => ?_)
      have f52 := (((((Jk3.2.keep Kc2 (ni1 (Exa.ne f51 f45 (by decide)))).keep Kc3 (List.not_mem_nil)).keep Kc5 (ni1 (Exa.ne f51 I_13.2.1 (by decide)))).keep Kc9 (ni1 (Exa.ne f51 I_13.2.1 (by decide)))).keep Kc13 (ni1 (Exa.ne f51 I_13.2.1 (by decide))))
      have jq53 : own_J Z h13 kl3 k3 := ⟨f51, f52⟩
      refine w_callV X q2_5_94 (wd_283 hw) (wd_284 hw) (notFace_of_selects (args := #[]) (mvT X.hZ (wd_286 hw))) (wd_286 hw) (wd_285 hw) (wd_53 hw) (wd_287 hw) (by decide) f51 (argsL := []) (S := []) (m_lv hw jq53) pd_26 rfl rfl rfl (by decide) (leR rfl) (by decide) (by decide) (fun T h17 v17 L17 X q17 => ?_)
      obtain ⟨rfl, rfl⟩ := q17
      show Wp _ _ _ _ (T.setTop (mkF _ _ _ [(.long k3)]))
      have f54 := ((((M_2.2.2.1.keep Kc3 (List.not_mem_nil)).keep Kc5 (ni1 (Exa.ne f45 I_13.2.1 (by decide)))).keep Kc9 (ni1 (Exa.ne f45 I_13.2.1 (by decide)))).keep Kc13 (ni1 (Exa.ne f45 I_13.2.1 (by decide))))
      have f55 := ((((M_2.2.2.2.1.keep Kc3 (List.not_mem_nil)).keep Kc5 (ni1 (Exa.ne f45 I_13.2.1 (by decide)))).keep Kc9 (ni1 (Exa.ne f45 I_13.2.1 (by decide)))).keep Kc13 (ni1 (Exa.ne f45 I_13.2.1 (by decide))))
      have f56 := (f42.keep Kc13 (ni1 (Exa.ne f45 I_13.2.1 (by decide))))
      have f57 := ((((M_2.2.2.2.2.2.1.keep Kc3 (List.not_mem_nil)).keep Kc5 (ni1 (Exa.ne f45 I_13.2.1 (by decide)))).keep Kc9 (ni1 (Exa.ne f45 I_13.2.1 (by decide)))).keep Kc13 (ni1 (Exa.ne f45 I_13.2.1 (by decide))))
      have f58 := ((((M_2.2.2.2.2.2.2.keep Kc3 (List.not_mem_nil)).keep Kc5 (ni1 (Exa.ne f45 I_13.2.1 (by decide)))).keep Kc9 (ni1 (Exa.ne f45 I_13.2.1 (by decide)))).keep Kc13 (ni1 (Exa.ne f45 I_13.2.1 (by decide))))
      have f59 := ((((Ee2.keep Kc3).keep Kc5).keep Kc9).keep Kc13)
      have f60 := ((((Fe2.keep Kc3 (List.not_mem_nil)).keep Kc5 (ni1 (Exa.ne f59 I_13.2.1 (by decide)))).keep Kc9 (ni1 (Exa.ne f59 I_13.2.1 (by decide)))).keep Kc13 (ni1 (Exa.ne f59 I_13.2.1 (by decide))))
      have f61 := (((((Ert.keep Kc2).keep Kc3).keep Kc5).keep Kc9).keep Kc13)
      have f62 := (((((Fc.keep Kc2 (ni1 (Exa.ne f61 f45 (by decide)))).keep Kc3 (List.not_mem_nil)).keep Kc5 (ni1 (Exa.ne f61 I_13.2.1 (by decide)))).keep Kc9 (ni1 (Exa.ne f61 I_13.2.1 (by decide)))).keep Kc13 (ni1 (Exa.ne f61 I_13.2.1 (by decide))))
      have f63 := (((((Fr.keep Kc2 (ni1 (Exa.ne f61 f45 (by decide)))).keep Kc3 (List.not_mem_nil)).keep Kc5 (ni1 (Exa.ne f61 I_13.2.1 (by decide)))).keep Kc9 (ni1 (Exa.ne f61 I_13.2.1 (by decide)))).keep Kc13 (ni1 (Exa.ne f61 I_13.2.1 (by decide))))
      exact w_retJ X q2_5_97 ⟨by rw [own_pc, if_pos hc81, own_pc, if_pos hc81_1, own_pc, if_neg hs], _, ⟨tm, grt, f61, f62, f63, ⟨_, _, _, ⟨M_2.1, f45, f54, f55, f56, f57, f58⟩, S0.kp K43 (own_ok1 f45 (by decide) (by decide))⟩, Or.inr ⟨es2, rfl, f59, f60⟩⟩⟩ (by decide) (by decide)
    · refine w_aload X q2_5_84 rfl (rfl) ?_
      have f64 := ((((N_er.2.2.1.keep Kc2 (ni1 (Exa.ne f30 f31 (by decide)))).keep Kc3 (List.not_mem_nil)).keep Kc5 (ni1 (Exa.ne f30 I_9.2.1 (by decide)))).keep Kc9 (ni1 (Exa.ne f30 I_9.2.1 (by decide))))
      refine w_callN X q2_5_86 (wd_288 hw) (wd_289 hw) (wd_290 hw) (wd_291 hw) (wd_292 hw) (wd_293 hw) (wd_294 hw) (wd_273 hw) (wd_106 hw) (wd_295 hw) (by decide) f30 (argsL := []) (S := []) (m_getKey hw f64) pd_25 rfl rfl rfl (by decide) (leR rfl) (by decide) (by decide) (fun T h18 v18 L18 X q18 => ?_)
      obtain ⟨rfl, rfl⟩ := q18
      show Wp _ _ _ _ (T.setTop (mkF _ _ _ [(.ref kl2)]))
      have f65 := ((((Jk2.1.keep Kc2).keep Kc3).keep Kc5).keep Kc9)
      refine w_cast X q2_5_91 (wd_282 hw) (Ins.self f65) (fun T X => ?_)
      have f66 := ((((Jk2.2.keep Kc2 (ni1 (Exa.ne f65 f31 (by decide)))).keep Kc3 (List.not_mem_nil)).keep Kc5 (ni1 (Exa.ne f65 I_9.2.1 (by decide)))).keep Kc9 (ni1 (Exa.ne f65 I_9.2.1 (by decide))))
      have jq67 : own_J Z h9 kl2 k2 := ⟨f65, f66⟩
      refine w_callV X q2_5_94 (wd_283 hw) (wd_284 hw) (notFace_of_selects (args := #[]) (mvT X.hZ (wd_286 hw))) (wd_286 hw) (wd_285 hw) (wd_53 hw) (wd_287 hw) (by decide) f65 (argsL := []) (S := []) (m_lv hw jq67) pd_26 rfl rfl rfl (by decide) (leR rfl) (by decide) (by decide) (fun T h19 v19 L19 X q19 => ?_)
      obtain ⟨rfl, rfl⟩ := q19
      show Wp _ _ _ _ (T.setTop (mkF _ _ _ [(.long k2)]))
      have f68 := (((M_2.2.2.1.keep Kc3 (List.not_mem_nil)).keep Kc5 (ni1 (Exa.ne f31 I_9.2.1 (by decide)))).keep Kc9 (ni1 (Exa.ne f31 I_9.2.1 (by decide))))
      have f69 := (((M_2.2.2.2.1.keep Kc3 (List.not_mem_nil)).keep Kc5 (ni1 (Exa.ne f31 I_9.2.1 (by decide)))).keep Kc9 (ni1 (Exa.ne f31 I_9.2.1 (by decide))))
      have f70 := (f28.keep Kc9 (ni1 (Exa.ne f31 I_9.2.1 (by decide))))
      have f71 := (((M_2.2.2.2.2.2.1.keep Kc3 (List.not_mem_nil)).keep Kc5 (ni1 (Exa.ne f31 I_9.2.1 (by decide)))).keep Kc9 (ni1 (Exa.ne f31 I_9.2.1 (by decide))))
      have f72 := (((M_2.2.2.2.2.2.2.keep Kc3 (List.not_mem_nil)).keep Kc5 (ni1 (Exa.ne f31 I_9.2.1 (by decide)))).keep Kc9 (ni1 (Exa.ne f31 I_9.2.1 (by decide))))
      have f73 := (((Ee2.keep Kc3).keep Kc5).keep Kc9)
      have f74 := (((Fe2.keep Kc3 (List.not_mem_nil)).keep Kc5 (ni1 (Exa.ne f73 I_9.2.1 (by decide)))).keep Kc9 (ni1 (Exa.ne f73 I_9.2.1 (by decide))))
      have f75 := ((((Ert.keep Kc2).keep Kc3).keep Kc5).keep Kc9)
      have f76 := ((((Fc.keep Kc2 (ni1 (Exa.ne f75 f31 (by decide)))).keep Kc3 (List.not_mem_nil)).keep Kc5 (ni1 (Exa.ne f75 I_9.2.1 (by decide)))).keep Kc9 (ni1 (Exa.ne f75 I_9.2.1 (by decide))))
      have f77 := ((((Fr.keep Kc2 (ni1 (Exa.ne f75 f31 (by decide)))).keep Kc3 (List.not_mem_nil)).keep Kc5 (ni1 (Exa.ne f75 I_9.2.1 (by decide)))).keep Kc9 (ni1 (Exa.ne f75 I_9.2.1 (by decide))))
      exact w_retJ X q2_5_97 ⟨by rw [own_pc, if_pos hc81, own_pc, if_neg hc81_1], _, ⟨tm, grt, f75, f76, f77, ⟨_, _, _, ⟨M_2.1, f31, f68, f69, f70, f71, f72⟩, S0.kp K29 (own_ok1 f31 (by decide) (by decide))⟩, Or.inr ⟨es2, rfl, f73, f74⟩⟩⟩ (by decide) (by decide)
  · refine w_aload X q2_5_84 rfl (rfl) ?_
    have f78 := (((N_el.2.2.1.keep Kc2 (ni1 (Exa.ne f17 f18 (by decide)))).keep Kc3 (List.not_mem_nil)).keep Kc5 (ni1 (Exa.ne f17 I_5.2.1 (by decide))))
    refine w_callN X q2_5_86 (wd_288 hw) (wd_289 hw) (wd_290 hw) (wd_291 hw) (wd_292 hw) (wd_293 hw) (wd_294 hw) (wd_273 hw) (wd_106 hw) (wd_295 hw) (by decide) f17 (argsL := []) (S := []) (m_getKey hw f78) pd_25 rfl rfl rfl (by decide) (leR rfl) (by decide) (by decide) (fun T h20 v20 L20 X q20 => ?_)
    obtain ⟨rfl, rfl⟩ := q20
    show Wp _ _ _ _ (T.setTop (mkF _ _ _ [(.ref kl1)]))
    have f79 := (((Jk1.1.keep Kc2).keep Kc3).keep Kc5)
    refine w_cast X q2_5_91 (wd_282 hw) (Ins.self f79) (fun T X => ?_)
    have f80 := (((Jk1.2.keep Kc2 (ni1 (Exa.ne f79 f18 (by decide)))).keep Kc3 (List.not_mem_nil)).keep Kc5 (ni1 (Exa.ne f79 I_5.2.1 (by decide))))
    have jq81 : own_J Z h5 kl1 k1 := ⟨f79, f80⟩
    refine w_callV X q2_5_94 (wd_283 hw) (wd_284 hw) (notFace_of_selects (args := #[]) (mvT X.hZ (wd_286 hw))) (wd_286 hw) (wd_285 hw) (wd_53 hw) (wd_287 hw) (by decide) f79 (argsL := []) (S := []) (m_lv hw jq81) pd_26 rfl rfl rfl (by decide) (leR rfl) (by decide) (by decide) (fun T h21 v21 L21 X q21 => ?_)
    obtain ⟨rfl, rfl⟩ := q21
    show Wp _ _ _ _ (T.setTop (mkF _ _ _ [(.long k1)]))
    have f82 := ((M_2.2.2.1.keep Kc3 (List.not_mem_nil)).keep Kc5 (ni1 (Exa.ne f18 I_5.2.1 (by decide))))
    have f83 := ((M_2.2.2.2.1.keep Kc3 (List.not_mem_nil)).keep Kc5 (ni1 (Exa.ne f18 I_5.2.1 (by decide))))
    have f84 := (f15.keep Kc5 (ni1 (Exa.ne f18 I_5.2.1 (by decide))))
    have f85 := ((M_2.2.2.2.2.2.1.keep Kc3 (List.not_mem_nil)).keep Kc5 (ni1 (Exa.ne f18 I_5.2.1 (by decide))))
    have f86 := ((M_2.2.2.2.2.2.2.keep Kc3 (List.not_mem_nil)).keep Kc5 (ni1 (Exa.ne f18 I_5.2.1 (by decide))))
    have f87 := ((Ee2.keep Kc3).keep Kc5)
    have f88 := ((Fe2.keep Kc3 (List.not_mem_nil)).keep Kc5 (ni1 (Exa.ne f87 I_5.2.1 (by decide))))
    have f89 := (((Ert.keep Kc2).keep Kc3).keep Kc5)
    have f90 := (((Fc.keep Kc2 (ni1 (Exa.ne f89 f18 (by decide)))).keep Kc3 (List.not_mem_nil)).keep Kc5 (ni1 (Exa.ne f89 I_5.2.1 (by decide))))
    have f91 := (((Fr.keep Kc2 (ni1 (Exa.ne f89 f18 (by decide)))).keep Kc3 (List.not_mem_nil)).keep Kc5 (ni1 (Exa.ne f89 I_5.2.1 (by decide))))
    exact w_retJ X q2_5_97 ⟨by rw [own_pc, if_neg hc81], _, ⟨tm, grt, f89, f90, f91, ⟨_, _, _, ⟨M_2.1, f18, f82, f83, f84, f85, f86⟩, S0.kp K16 (own_ok1 f18 (by decide) (by decide))⟩, Or.inr ⟨es2, rfl, f87, f88⟩⟩⟩ (by decide) (by decide)
theorem m_pc (hw : own_hw a0 Z) {h0 : Heap} {rt : Addr} {pp : Int32} {nd : Int64} {ev : Value} {kcs : List (Int64 × Int64)} (R0 : own_RT Z n0 h0 rt 3 ev kcs) (hk : kcs ≠ []) (hnd : own_mx (1 : Int64) ((((3 : Int64) * (pp.toInt64)) + (99 : Int64)) / (100 : Int64)) = nd) (hs : ¬ own_tot 0 kcs < nd) :
    Does l Z n0 ⟨"com/example/bounded_lock/boundedlock/cli/RoundTimes", "percentile", "(I)J"⟩ prog_2_method_5_code 8 (some .long) [] { frames := 5, cells := 2, slots := 5, locals := 64 } #[(.ref rt), (.int pp)] h0 (fun v h => v = some (.long (own_pc nd 0 kcs)) ∧ ∃ ev, own_RT Z n0 h rt 3 ev kcs) := by
  obtain ⟨tm, grt, Ert, Fc, Fr, ⟨root, sz, mc, M0, S0⟩, H0⟩ := R0
  match kcs, S0, hk, hs with
  | [], _, hk, _ => exact absurd rfl hk
  | [(k1, c1)], ⟨er, kl1, vl1, e1, N1, J1, J2⟩, _, hs => subst e1; exact m_pc1 hw grt Ert Fc Fr M0 H0 ⟨er, kl1, vl1, rfl, N1, J1, J2⟩ N1 J1 J2 hnd hs
  | [(k1, c1), (k2, c2)], ⟨h12, Or.inl ⟨er, el, kl1, vl1, kl2, vl2, e1, nrl, N1, N2, J1, J2, J3, J4⟩⟩, _, hs => subst e1; exact m_pc2l hw grt Ert Fc Fr M0 H0 ⟨h12, Or.inl ⟨er, el, kl1, vl1, kl2, vl2, rfl, nrl, N1, N2, J1, J2, J3, J4⟩⟩ N1 N2 J1 J2 J3 J4 hnd hs
  | [(k1, c1), (k2, c2)], ⟨h12, Or.inr ⟨er, el, kl1, vl1, kl2, vl2, e1, nrl, N1, N2, J1, J2, J3, J4⟩⟩, _, hs => subst e1; exact m_pc2r hw grt Ert Fc Fr M0 H0 ⟨h12, Or.inr ⟨er, el, kl1, vl1, kl2, vl2, rfl, nrl, N1, N2, J1, J2, J3, J4⟩⟩ N1 N2 J1 J2 J3 J4 hnd hs
  | [(k1, c1), (k2, c2), (k3, c3)], ⟨er, el, eq, kl1, vl1, kl2, vl2, kl3, vl3, e1, nlq, N1, N2, N3, J1, J2, J3, J4, J5, J6⟩, _, hs => subst e1; exact m_pc3 hw grt Ert Fc Fr M0 H0 ⟨er, el, eq, kl1, vl1, kl2, vl2, kl3, vl3, rfl, nlq, N1, N2, N3, J1, J2, J3, J4, J5, J6⟩ N1 N2 N3 J1 J2 J3 J4 J5 J6 nlq hnd hs
  | (_, _) :: (_, _) :: (_, _) :: (_, _) :: _, S0, _, _ => exact False.elim (show False from S0)
theorem m_law (hw : own_hw a0 Z) (hZs : Z.heap.size = n0) (u0 u1 u2 : Int64) {cF : ClassId} {lam : Addr} {ca : Addr} {cc : Cell}  (hL : own_L Z cF lam) (hC : own_C Z ca cc) :
    DoesL l Z n0 x code maxLocals ret tables_1 room_1 #[(.long u0), (.long u1), (.long u2)] (fun v _ => v = some (.int 1)) := by
  refine DoesL.start hZs (plainFor_of_name pn_12) ?_
  intro p e s m below meth c T X Y hsZ
  replace X : Sd _ _ _ _ _ "com/example/bounded_lock/boundedlock/cli/RoundTimesAddPinLaw" "law" _ _ _ _ _ _ _ _ _ _ _ _ _ _ _ _ := X
  have hs0 : s.heap.size = n0 := by rw [hsZ]; exact hZs
  have hkp : ∀ (b : Addr) (cl : Cell), Z.heap[b]? = some cl → s.heap[b]? = some cl := by rw [hsZ]; exact fun _ _ q => q
  have I0 : IB Z s.vm [] := by rw [hsZ]; exact IB.start
  refine Wp.cast (g' := mkF m 0 #[.val (.long u0), .second, .val (.long u1), .second, .val (.long u2), .second, .unset, .unset, .unset, .unset, .unset, .unset, .unset, .unset, .unset, .unset, .unset, .unset, .unset, .unset, .unset, .unset, .unset, .unset, .unset, .unset] []) (by first | (simp [entryFrame, mkF, argsToLocals, Value.category, maxLocals]; done) | rfl) ?_
  refine w_lloadN X d_0 rfl ?_
  refine w_ldc2J X d_1 (wd_0 hw) ?_
  refine w_land X d_4 ?_
  refine w_lstore X #[.val (.long u0), .second, .val (.long u1), .second, .val (.long u2), .second, .val (.long (u0 &&& (4611686018427387903 : Int64))), .second, .unset, .unset, .unset, .unset, .unset, .unset, .unset, .unset, .unset, .unset, .unset, .unset, .unset, .unset, .unset, .unset, .unset, .unset] d_5 rfl ?_
  refine w_lloadN X d_7 rfl ?_
  refine w_ldc2J X d_8 (wd_0 hw) ?_
  refine w_land X d_11 ?_
  refine w_lstore X #[.val (.long u0), .second, .val (.long u1), .second, .val (.long u2), .second, .val (.long (u0 &&& (4611686018427387903 : Int64))), .second, .val (.long (u1 &&& (4611686018427387903 : Int64))), .second, .unset, .unset, .unset, .unset, .unset, .unset, .unset, .unset, .unset, .unset, .unset, .unset, .unset, .unset, .unset, .unset] d_12 rfl ?_
  refine w_lload X d_14 rfl ?_
  refine w_ldc2J X d_16 (wd_0 hw) ?_
  refine w_land X d_19 ?_
  refine w_lstore X #[.val (.long u0), .second, .val (.long u1), .second, .val (.long u2), .second, .val (.long (u0 &&& (4611686018427387903 : Int64))), .second, .val (.long (u1 &&& (4611686018427387903 : Int64))), .second, .val (.long (u2 &&& (4611686018427387903 : Int64))), .second, .unset, .unset, .unset, .unset, .unset, .unset, .unset, .unset, .unset, .unset, .unset, .unset, .unset, .unset] d_20 rfl ?_
  refine w_lload X d_22 rfl ?_
  refine w_callS X d_24 (wd_1 hw) (wd_2 hw) (wd_3 hw) (wd_4 hw) (by decide) (argsL := [(.long (u0 &&& (4611686018427387903 : Int64)))]) (S := []) (m_mi hw) pd_27 rfl rfl rfl (by decide) (leR rfl) (by decide) (by decide) (fun T h1 v1 L1 X q1 => ?_)
  obtain ⟨rfl, rfl⟩ := q1
  show Wp _ _ _ _ (T.setTop (mkF _ _ _ [(.long (own_mi (u0 &&& (4611686018427387903 : Int64))))]))
  refine w_lstore X #[.val (.long u0), .second, .val (.long u1), .second, .val (.long u2), .second, .val (.long (u0 &&& (4611686018427387903 : Int64))), .second, .val (.long (u1 &&& (4611686018427387903 : Int64))), .second, .val (.long (u2 &&& (4611686018427387903 : Int64))), .second, .val (.long (own_mi (u0 &&& (4611686018427387903 : Int64)))), .second, .unset, .unset, .unset, .unset, .unset, .unset, .unset, .unset, .unset, .unset, .unset, .unset] d_27 rfl ?_
  refine w_lload X d_29 rfl ?_
  refine w_callS X d_31 (wd_1 hw) (wd_2 hw) (wd_3 hw) (wd_4 hw) (by decide) (argsL := [(.long (u1 &&& (4611686018427387903 : Int64)))]) (S := []) (m_mi hw) pd_27 rfl rfl rfl (by decide) (leR rfl) (by decide) (by decide) (fun T h2 v2 L2 X q2 => ?_)
  obtain ⟨rfl, rfl⟩ := q2
  show Wp _ _ _ _ (T.setTop (mkF _ _ _ [(.long (own_mi (u1 &&& (4611686018427387903 : Int64))))]))
  refine w_lstore X #[.val (.long u0), .second, .val (.long u1), .second, .val (.long u2), .second, .val (.long (u0 &&& (4611686018427387903 : Int64))), .second, .val (.long (u1 &&& (4611686018427387903 : Int64))), .second, .val (.long (u2 &&& (4611686018427387903 : Int64))), .second, .val (.long (own_mi (u0 &&& (4611686018427387903 : Int64)))), .second, .val (.long (own_mi (u1 &&& (4611686018427387903 : Int64)))), .second, .unset, .unset, .unset, .unset, .unset, .unset, .unset, .unset, .unset, .unset] d_34 rfl ?_
  refine w_lload X d_36 rfl ?_
  refine w_callS X d_38 (wd_1 hw) (wd_2 hw) (wd_3 hw) (wd_4 hw) (by decide) (argsL := [(.long (u2 &&& (4611686018427387903 : Int64)))]) (S := []) (m_mi hw) pd_27 rfl rfl rfl (by decide) (leR rfl) (by decide) (by decide) (fun T h3 v3 L3 X q3 => ?_)
  obtain ⟨rfl, rfl⟩ := q3
  show Wp _ _ _ _ (T.setTop (mkF _ _ _ [(.long (own_mi (u2 &&& (4611686018427387903 : Int64))))]))
  refine w_lstore X #[.val (.long u0), .second, .val (.long u1), .second, .val (.long u2), .second, .val (.long (u0 &&& (4611686018427387903 : Int64))), .second, .val (.long (u1 &&& (4611686018427387903 : Int64))), .second, .val (.long (u2 &&& (4611686018427387903 : Int64))), .second, .val (.long (own_mi (u0 &&& (4611686018427387903 : Int64)))), .second, .val (.long (own_mi (u1 &&& (4611686018427387903 : Int64)))), .second, .val (.long (own_mi (u2 &&& (4611686018427387903 : Int64)))), .second, .unset, .unset, .unset, .unset, .unset, .unset, .unset, .unset] d_41 rfl ?_
  refine w_lload X d_43 rfl ?_
  refine w_lload X d_45 rfl ?_
  refine w_lload X d_47 rfl ?_
  refine w_callS X d_49 (wd_7 hw) (wd_8 hw) (wd_9 hw) (wd_10 hw) (by decide) (argsL := [(.long (own_mi (u1 &&& (4611686018427387903 : Int64)))), (.long (own_mi (u2 &&& (4611686018427387903 : Int64))))]) (S := [(.long (own_mi (u0 &&& (4611686018427387903 : Int64))))]) (m_mn hw) pd_21 rfl rfl rfl (by decide) (leR rfl) (by decide) (by decide) (fun T h4 v4 L4 X q4 => ?_)
  obtain ⟨rfl, rfl⟩ := q4
  show Wp _ _ _ _ (T.setTop (mkF _ _ _ [(.long (own_mn (own_mi (u1 &&& (4611686018427387903 : Int64))) (own_mi (u2 &&& (4611686018427387903 : Int64))))), (.long (own_mi (u0 &&& (4611686018427387903 : Int64))))]))
  refine w_callS X d_52 (wd_7 hw) (wd_8 hw) (wd_9 hw) (wd_10 hw) (by decide) (argsL := [(.long (own_mi (u0 &&& (4611686018427387903 : Int64)))), (.long (own_mn (own_mi (u1 &&& (4611686018427387903 : Int64))) (own_mi (u2 &&& (4611686018427387903 : Int64)))))]) (S := []) (m_mn hw) pd_21 rfl rfl rfl (by decide) (leR rfl) (by decide) (by decide) (fun T h5 v5 L5 X q5 => ?_)
  obtain ⟨rfl, rfl⟩ := q5
  show Wp _ _ _ _ (T.setTop (mkF _ _ _ [(.long (own_mn (own_mi (u0 &&& (4611686018427387903 : Int64))) (own_mn (own_mi (u1 &&& (4611686018427387903 : Int64))) (own_mi (u2 &&& (4611686018427387903 : Int64))))))]))
  refine w_lstore X #[.val (.long u0), .second, .val (.long u1), .second, .val (.long u2), .second, .val (.long (u0 &&& (4611686018427387903 : Int64))), .second, .val (.long (u1 &&& (4611686018427387903 : Int64))), .second, .val (.long (u2 &&& (4611686018427387903 : Int64))), .second, .val (.long (own_mi (u0 &&& (4611686018427387903 : Int64)))), .second, .val (.long (own_mi (u1 &&& (4611686018427387903 : Int64)))), .second, .val (.long (own_mi (u2 &&& (4611686018427387903 : Int64)))), .second, .val (.long (own_mn (own_mi (u0 &&& (4611686018427387903 : Int64))) (own_mn (own_mi (u1 &&& (4611686018427387903 : Int64))) (own_mi (u2 &&& (4611686018427387903 : Int64)))))), .second, .unset, .unset, .unset, .unset, .unset, .unset] d_55 rfl ?_
  refine w_lload X d_57 rfl ?_
  refine w_lload X d_59 rfl ?_
  refine w_lload X d_61 rfl ?_
  refine w_callS X d_63 (wd_11 hw) (wd_12 hw) (wd_9 hw) (wd_13 hw) (by decide) (argsL := [(.long (own_mi (u1 &&& (4611686018427387903 : Int64)))), (.long (own_mi (u2 &&& (4611686018427387903 : Int64))))]) (S := [(.long (own_mi (u0 &&& (4611686018427387903 : Int64))))]) (m_mx hw rfl) pd_21 rfl rfl rfl (by decide) (leR rfl) (by decide) (by decide) (fun T h6 v6 L6 X q6 => ?_)
  obtain ⟨rfl, rfl⟩ := q6
  show Wp _ _ _ _ (T.setTop (mkF _ _ _ [(.long (own_mx (own_mi (u1 &&& (4611686018427387903 : Int64))) (own_mi (u2 &&& (4611686018427387903 : Int64))))), (.long (own_mi (u0 &&& (4611686018427387903 : Int64))))]))
  refine w_callS X d_66 (wd_11 hw) (wd_12 hw) (wd_9 hw) (wd_13 hw) (by decide) (argsL := [(.long (own_mi (u0 &&& (4611686018427387903 : Int64)))), (.long (own_mx (own_mi (u1 &&& (4611686018427387903 : Int64))) (own_mi (u2 &&& (4611686018427387903 : Int64)))))]) (S := []) (m_mx hw rfl) pd_21 rfl rfl rfl (by decide) (leR rfl) (by decide) (by decide) (fun T h7 v7 L7 X q7 => ?_)
  obtain ⟨rfl, rfl⟩ := q7
  show Wp _ _ _ _ (T.setTop (mkF _ _ _ [(.long (own_mx (own_mi (u0 &&& (4611686018427387903 : Int64))) (own_mx (own_mi (u1 &&& (4611686018427387903 : Int64))) (own_mi (u2 &&& (4611686018427387903 : Int64))))))]))
  refine w_lstore X #[.val (.long u0), .second, .val (.long u1), .second, .val (.long u2), .second, .val (.long (u0 &&& (4611686018427387903 : Int64))), .second, .val (.long (u1 &&& (4611686018427387903 : Int64))), .second, .val (.long (u2 &&& (4611686018427387903 : Int64))), .second, .val (.long (own_mi (u0 &&& (4611686018427387903 : Int64)))), .second, .val (.long (own_mi (u1 &&& (4611686018427387903 : Int64)))), .second, .val (.long (own_mi (u2 &&& (4611686018427387903 : Int64)))), .second, .val (.long (own_mn (own_mi (u0 &&& (4611686018427387903 : Int64))) (own_mn (own_mi (u1 &&& (4611686018427387903 : Int64))) (own_mi (u2 &&& (4611686018427387903 : Int64)))))), .second, .val (.long (own_mx (own_mi (u0 &&& (4611686018427387903 : Int64))) (own_mx (own_mi (u1 &&& (4611686018427387903 : Int64))) (own_mi (u2 &&& (4611686018427387903 : Int64)))))), .second, .unset, .unset, .unset, .unset] d_69 rfl ?_
  refine w_lload X d_71 rfl ?_
  refine w_lload X d_73 rfl ?_
  refine w_ladd X d_75 ?_
  refine w_lload X d_76 rfl ?_
  refine w_ladd X d_78 ?_
  refine w_lload X d_79 rfl ?_
  refine w_lsub X d_81 ?_
  refine w_lload X d_82 rfl ?_
  refine w_lsub X d_84 ?_
  refine w_lstore X #[.val (.long u0), .second, .val (.long u1), .second, .val (.long u2), .second, .val (.long (u0 &&& (4611686018427387903 : Int64))), .second, .val (.long (u1 &&& (4611686018427387903 : Int64))), .second, .val (.long (u2 &&& (4611686018427387903 : Int64))), .second, .val (.long (own_mi (u0 &&& (4611686018427387903 : Int64)))), .second, .val (.long (own_mi (u1 &&& (4611686018427387903 : Int64)))), .second, .val (.long (own_mi (u2 &&& (4611686018427387903 : Int64)))), .second, .val (.long (own_mn (own_mi (u0 &&& (4611686018427387903 : Int64))) (own_mn (own_mi (u1 &&& (4611686018427387903 : Int64))) (own_mi (u2 &&& (4611686018427387903 : Int64)))))), .second, .val (.long (own_mx (own_mi (u0 &&& (4611686018427387903 : Int64))) (own_mx (own_mi (u1 &&& (4611686018427387903 : Int64))) (own_mi (u2 &&& (4611686018427387903 : Int64)))))), .second, .val (.long (((((own_mi (u0 &&& (4611686018427387903 : Int64))) + (own_mi (u1 &&& (4611686018427387903 : Int64)))) + (own_mi (u2 &&& (4611686018427387903 : Int64)))) - (own_mn (own_mi (u0 &&& (4611686018427387903 : Int64))) (own_mn (own_mi (u1 &&& (4611686018427387903 : Int64))) (own_mi (u2 &&& (4611686018427387903 : Int64)))))) - (own_mx (own_mi (u0 &&& (4611686018427387903 : Int64))) (own_mx (own_mi (u1 &&& (4611686018427387903 : Int64))) (own_mi (u2 &&& (4611686018427387903 : Int64))))))), .second, .unset, .unset] d_85 rfl ?_
  refine w_new X d_87 (wd_14 hw) (wd_15 hw) (wd_16 hw) (by decide) (by decide) (fun T h8 b8 g8 gn8 X E8 A8 D8 => ?_)
  refine w_dup X d_90 rfl ?_
  refine w_callI X d_91 rfl (wd_17 hw) (wd_18 hw) (wd_16 hw) (wd_19 hw) (by decide) (argsL := []) (S := [(.ref b8)]) (m_rti hw gn8 A8 (show Fld Z h8 b8 "com/example/bounded_lock/boundedlock/cli/RoundTimes" "counts" "Ljava/util/TreeMap;" .null from D8 (Or.inr (wd_43 hw)) (ty := (.object "java/util/TreeMap")) (by decide)) (show Fld Z h8 b8 "com/example/bounded_lock/boundedlock/cli/RoundTimes" "rounds" "J" (.long (0 : Int64)) from D8 (Or.inl (wd_121 hw)) (ty := .long) (by decide))) pd_3 rfl rfl rfl (by decide) (leR rfl) (by decide) (by decide) (fun T h9 v9 L9 X q9 => ?_)
  obtain ⟨rfl, R9, Kc9⟩ := q9
  show Wp _ _ _ _ (T.setTop (mkF _ _ _ [(.ref b8)]))
  refine w_astore X #[.val (.long u0), .second, .val (.long u1), .second, .val (.long u2), .second, .val (.long (u0 &&& (4611686018427387903 : Int64))), .second, .val (.long (u1 &&& (4611686018427387903 : Int64))), .second, .val (.long (u2 &&& (4611686018427387903 : Int64))), .second, .val (.long (own_mi (u0 &&& (4611686018427387903 : Int64)))), .second, .val (.long (own_mi (u1 &&& (4611686018427387903 : Int64)))), .second, .val (.long (own_mi (u2 &&& (4611686018427387903 : Int64)))), .second, .val (.long (own_mn (own_mi (u0 &&& (4611686018427387903 : Int64))) (own_mn (own_mi (u1 &&& (4611686018427387903 : Int64))) (own_mi (u2 &&& (4611686018427387903 : Int64)))))), .second, .val (.long (own_mx (own_mi (u0 &&& (4611686018427387903 : Int64))) (own_mx (own_mi (u1 &&& (4611686018427387903 : Int64))) (own_mi (u2 &&& (4611686018427387903 : Int64)))))), .second, .val (.long (((((own_mi (u0 &&& (4611686018427387903 : Int64))) + (own_mi (u1 &&& (4611686018427387903 : Int64)))) + (own_mi (u2 &&& (4611686018427387903 : Int64)))) - (own_mn (own_mi (u0 &&& (4611686018427387903 : Int64))) (own_mn (own_mi (u1 &&& (4611686018427387903 : Int64))) (own_mi (u2 &&& (4611686018427387903 : Int64)))))) - (own_mx (own_mi (u0 &&& (4611686018427387903 : Int64))) (own_mx (own_mi (u1 &&& (4611686018427387903 : Int64))) (own_mi (u2 &&& (4611686018427387903 : Int64))))))), .second, .val (.ref b8), .unset] d_94 (rfl) rfl ?_
  refine w_aload X d_96 rfl (rfl) ?_
  refine w_lload X d_98 rfl ?_
  refine w_callV X d_100 (wd_44 hw) (wd_45 hw) (notFace_of_selects (args := #[]) (mvT X.hZ (wd_47 hw))) (wd_47 hw) (wd_46 hw) (wd_16 hw) (wd_48 hw) (by decide) (own_RT.exa R9) (argsL := [(.long (u0 &&& (4611686018427387903 : Int64)))]) (S := []) (m_add hw (n' := (1 : Int64)) R9 own_len0 (by decide) hL hC) pd_4 rfl rfl rfl (by decide) (leR rfl) (by decide) (by decide) (fun T h10 v10 L10 X q10 => ?_)
  obtain ⟨rfl, R10⟩ := q10
  show Wp _ _ _ _ (T.setTop (mkF _ _ _ []))
  refine w_aload X d_103 rfl (rfl) ?_
  refine w_callV X d_105 (wd_122 hw) (wd_123 hw) (notFace_of_selects (args := #[]) (mvT X.hZ (wd_125 hw))) (wd_125 hw) (wd_124 hw) (wd_16 hw) (wd_126 hw) (by decide) (own_RT.exa R10) (argsL := []) (S := []) (m_rnd hw (own_RT.rnd R10)) pd_26 rfl rfl rfl (by decide) (leR rfl) (by decide) (by decide) (fun T h11 v11 L11 X q11 => ?_)
  obtain ⟨rfl, rfl⟩ := q11
  show Wp _ _ _ _ (T.setTop (mkF _ _ _ [(.long (1 : Int64))]))
  refine w_lconst X (1 : Int64) d_108 rfl ?_
  refine w_lne X d_109 d_110 (fun hc => absurd rfl hc) (fun _ => ?_)
  refine w_iconst X (1 : Int32) d_113 rfl ?_
  refine w_goto X d_114 ?_
  refine w_istore X #[.val (.long u0), .second, .val (.long u1), .second, .val (.long u2), .second, .val (.long (u0 &&& (4611686018427387903 : Int64))), .second, .val (.long (u1 &&& (4611686018427387903 : Int64))), .second, .val (.long (u2 &&& (4611686018427387903 : Int64))), .second, .val (.long (own_mi (u0 &&& (4611686018427387903 : Int64)))), .second, .val (.long (own_mi (u1 &&& (4611686018427387903 : Int64)))), .second, .val (.long (own_mi (u2 &&& (4611686018427387903 : Int64)))), .second, .val (.long (own_mn (own_mi (u0 &&& (4611686018427387903 : Int64))) (own_mn (own_mi (u1 &&& (4611686018427387903 : Int64))) (own_mi (u2 &&& (4611686018427387903 : Int64)))))), .second, .val (.long (own_mx (own_mi (u0 &&& (4611686018427387903 : Int64))) (own_mx (own_mi (u1 &&& (4611686018427387903 : Int64))) (own_mi (u2 &&& (4611686018427387903 : Int64)))))), .second, .val (.long (((((own_mi (u0 &&& (4611686018427387903 : Int64))) + (own_mi (u1 &&& (4611686018427387903 : Int64)))) + (own_mi (u2 &&& (4611686018427387903 : Int64)))) - (own_mn (own_mi (u0 &&& (4611686018427387903 : Int64))) (own_mn (own_mi (u1 &&& (4611686018427387903 : Int64))) (own_mi (u2 &&& (4611686018427387903 : Int64)))))) - (own_mx (own_mi (u0 &&& (4611686018427387903 : Int64))) (own_mx (own_mi (u1 &&& (4611686018427387903 : Int64))) (own_mi (u2 &&& (4611686018427387903 : Int64))))))), .second, .val (.ref b8), .val (.int (1 : Int32))] d_118 rfl ?_
  refine w_aload X d_120 rfl (rfl) ?_
  refine w_lload X d_122 rfl ?_
  refine w_callV X d_124 (wd_44 hw) (wd_45 hw) (notFace_of_selects (args := #[]) (mvT X.hZ (wd_47 hw))) (wd_47 hw) (wd_46 hw) (wd_16 hw) (wd_48 hw) (by decide) (own_RT.exa R10) (argsL := [(.long (u1 &&& (4611686018427387903 : Int64)))]) (S := []) (m_add hw (n' := (2 : Int64)) R10 own_len1 (by decide) hL hC) pd_4 rfl rfl rfl (by decide) (leR rfl) (by decide) (by decide) (fun T h12 v12 L12 X q12 => ?_)
  obtain ⟨rfl, R12⟩ := q12
  show Wp _ _ _ _ (T.setTop (mkF _ _ _ []))
  refine w_aload X d_127 rfl (rfl) ?_
  refine w_lload X d_129 rfl ?_
  refine w_callV X d_131 (wd_44 hw) (wd_45 hw) (notFace_of_selects (args := #[]) (mvT X.hZ (wd_47 hw))) (wd_47 hw) (wd_46 hw) (wd_16 hw) (wd_48 hw) (by decide) (own_RT.exa R12) (argsL := [(.long (u2 &&& (4611686018427387903 : Int64)))]) (S := []) (m_add hw (n' := (3 : Int64)) R12 own_len2 (by decide) hL hC) pd_4 rfl rfl rfl (by decide) (leR rfl) (by decide) (by decide) (fun T h13 v13 L13 X q13 => ?_)
  obtain ⟨rfl, R13⟩ := q13
  show Wp _ _ _ _ (T.setTop (mkF _ _ _ []))
  refine w_iload X d_134 rfl ?_
  refine w_ifeq X d_136 (fun hc => absurd hc (by decide)) (fun _ => ?_)
  refine w_aload X d_139 rfl (rfl) ?_
  refine w_callV X d_141 (wd_122 hw) (wd_123 hw) (notFace_of_selects (args := #[]) (mvT X.hZ (wd_125 hw))) (wd_125 hw) (wd_124 hw) (wd_16 hw) (wd_126 hw) (by decide) (own_RT.exa R13) (argsL := []) (S := []) (m_rnd hw (own_RT.rnd R13)) pd_26 rfl rfl rfl (by decide) (leR rfl) (by decide) (by decide) (fun T h14 v14 L14 X q14 => ?_)
  obtain ⟨rfl, rfl⟩ := q14
  show Wp _ _ _ _ (T.setTop (mkF _ _ _ [(.long (3 : Int64))]))
  refine w_ldc2J X d_144 (wd_164 hw) ?_
  refine w_lne X d_147 d_148 (fun hc => absurd rfl hc) (fun _ => ?_)
  refine w_iconst X (1 : Int32) d_151 rfl ?_
  refine w_goto X d_152 ?_
  refine w_istore X #[.val (.long u0), .second, .val (.long u1), .second, .val (.long u2), .second, .val (.long (u0 &&& (4611686018427387903 : Int64))), .second, .val (.long (u1 &&& (4611686018427387903 : Int64))), .second, .val (.long (u2 &&& (4611686018427387903 : Int64))), .second, .val (.long (own_mi (u0 &&& (4611686018427387903 : Int64)))), .second, .val (.long (own_mi (u1 &&& (4611686018427387903 : Int64)))), .second, .val (.long (own_mi (u2 &&& (4611686018427387903 : Int64)))), .second, .val (.long (own_mn (own_mi (u0 &&& (4611686018427387903 : Int64))) (own_mn (own_mi (u1 &&& (4611686018427387903 : Int64))) (own_mi (u2 &&& (4611686018427387903 : Int64)))))), .second, .val (.long (own_mx (own_mi (u0 &&& (4611686018427387903 : Int64))) (own_mx (own_mi (u1 &&& (4611686018427387903 : Int64))) (own_mi (u2 &&& (4611686018427387903 : Int64)))))), .second, .val (.long (((((own_mi (u0 &&& (4611686018427387903 : Int64))) + (own_mi (u1 &&& (4611686018427387903 : Int64)))) + (own_mi (u2 &&& (4611686018427387903 : Int64)))) - (own_mn (own_mi (u0 &&& (4611686018427387903 : Int64))) (own_mn (own_mi (u1 &&& (4611686018427387903 : Int64))) (own_mi (u2 &&& (4611686018427387903 : Int64)))))) - (own_mx (own_mi (u0 &&& (4611686018427387903 : Int64))) (own_mx (own_mi (u1 &&& (4611686018427387903 : Int64))) (own_mi (u2 &&& (4611686018427387903 : Int64))))))), .second, .val (.ref b8), .val (.int (1 : Int32))] d_156 rfl ?_
  refine w_iload X d_158 rfl ?_
  refine w_ifeq X d_160 (fun hc => absurd hc (by decide)) (fun _ => ?_)
  refine w_aload X d_163 rfl (rfl) ?_
  refine w_iconst X (1 : Int32) d_165 rfl ?_
  refine w_callV X d_166 (wd_165 hw) (wd_166 hw) (notFace_of_selects (args := #[]) (mvT X.hZ (wd_168 hw))) (wd_168 hw) (wd_167 hw) (wd_16 hw) (wd_169 hw) (by decide) (own_RT.exa R13) (argsL := [(.int (1 : Int32))]) (S := []) (m_pc hw (nd := (1 : Int64)) R13 own_ne3 (by decide) (own_tot3 (by decide))) pd_28 rfl rfl rfl (by decide) (leR rfl) (by decide) (by decide) (fun T h15 v15 L15 X q15 => ?_)
  obtain ⟨rfl, ev15, R15⟩ := q15
  show Wp _ _ _ _ (T.setTop (mkF _ _ _ [(.long (own_pc (1 : Int64) 0 (own_ins (((u2 &&& (4611686018427387903 : Int64)) + 500) / 1000) (own_ins (((u1 &&& (4611686018427387903 : Int64)) + 500) / 1000) (own_ins (((u0 &&& (4611686018427387903 : Int64)) + 500) / 1000) [])))))]))
  refine w_lload X d_169 rfl ?_
  refine w_lne X d_171 d_172 (fun hc => absurd (own_lo u0 u1 u2) hc) (fun _ => ?_)
  refine w_iconst X (1 : Int32) d_175 rfl ?_
  refine w_goto X d_176 ?_
  refine w_istore X #[.val (.long u0), .second, .val (.long u1), .second, .val (.long u2), .second, .val (.long (u0 &&& (4611686018427387903 : Int64))), .second, .val (.long (u1 &&& (4611686018427387903 : Int64))), .second, .val (.long (u2 &&& (4611686018427387903 : Int64))), .second, .val (.long (own_mi (u0 &&& (4611686018427387903 : Int64)))), .second, .val (.long (own_mi (u1 &&& (4611686018427387903 : Int64)))), .second, .val (.long (own_mi (u2 &&& (4611686018427387903 : Int64)))), .second, .val (.long (own_mn (own_mi (u0 &&& (4611686018427387903 : Int64))) (own_mn (own_mi (u1 &&& (4611686018427387903 : Int64))) (own_mi (u2 &&& (4611686018427387903 : Int64)))))), .second, .val (.long (own_mx (own_mi (u0 &&& (4611686018427387903 : Int64))) (own_mx (own_mi (u1 &&& (4611686018427387903 : Int64))) (own_mi (u2 &&& (4611686018427387903 : Int64)))))), .second, .val (.long (((((own_mi (u0 &&& (4611686018427387903 : Int64))) + (own_mi (u1 &&& (4611686018427387903 : Int64)))) + (own_mi (u2 &&& (4611686018427387903 : Int64)))) - (own_mn (own_mi (u0 &&& (4611686018427387903 : Int64))) (own_mn (own_mi (u1 &&& (4611686018427387903 : Int64))) (own_mi (u2 &&& (4611686018427387903 : Int64)))))) - (own_mx (own_mi (u0 &&& (4611686018427387903 : Int64))) (own_mx (own_mi (u1 &&& (4611686018427387903 : Int64))) (own_mi (u2 &&& (4611686018427387903 : Int64))))))), .second, .val (.ref b8), .val (.int (1 : Int32))] d_180 rfl ?_
  refine w_iload X d_182 rfl ?_
  refine w_ifeq X d_184 (fun hc => absurd hc (by decide)) (fun _ => ?_)
  refine w_aload X d_187 rfl (rfl) ?_
  refine w_bipush X (50 : Int32) d_189 rfl ?_
  refine w_callV X d_191 (wd_165 hw) (wd_166 hw) (notFace_of_selects (args := #[]) (mvT X.hZ (wd_168 hw))) (wd_168 hw) (wd_167 hw) (wd_16 hw) (wd_169 hw) (by decide) (own_RT.exa R15) (argsL := [(.int (50 : Int32))]) (S := []) (m_pc hw (nd := (2 : Int64)) R15 own_ne3 (by decide) (own_tot3 (by decide))) pd_28 rfl rfl rfl (by decide) (leR rfl) (by decide) (by decide) (fun T h16 v16 L16 X q16 => ?_)
  obtain ⟨rfl, ev16, R16⟩ := q16
  show Wp _ _ _ _ (T.setTop (mkF _ _ _ [(.long (own_pc (2 : Int64) 0 (own_ins (((u2 &&& (4611686018427387903 : Int64)) + 500) / 1000) (own_ins (((u1 &&& (4611686018427387903 : Int64)) + 500) / 1000) (own_ins (((u0 &&& (4611686018427387903 : Int64)) + 500) / 1000) [])))))]))
  refine w_lload X d_194 rfl ?_
  refine w_lne X d_196 d_197 (fun hc => absurd (own_md u0 u1 u2) hc) (fun _ => ?_)
  refine w_iconst X (1 : Int32) d_200 rfl ?_
  refine w_goto X d_201 ?_
  refine w_istore X #[.val (.long u0), .second, .val (.long u1), .second, .val (.long u2), .second, .val (.long (u0 &&& (4611686018427387903 : Int64))), .second, .val (.long (u1 &&& (4611686018427387903 : Int64))), .second, .val (.long (u2 &&& (4611686018427387903 : Int64))), .second, .val (.long (own_mi (u0 &&& (4611686018427387903 : Int64)))), .second, .val (.long (own_mi (u1 &&& (4611686018427387903 : Int64)))), .second, .val (.long (own_mi (u2 &&& (4611686018427387903 : Int64)))), .second, .val (.long (own_mn (own_mi (u0 &&& (4611686018427387903 : Int64))) (own_mn (own_mi (u1 &&& (4611686018427387903 : Int64))) (own_mi (u2 &&& (4611686018427387903 : Int64)))))), .second, .val (.long (own_mx (own_mi (u0 &&& (4611686018427387903 : Int64))) (own_mx (own_mi (u1 &&& (4611686018427387903 : Int64))) (own_mi (u2 &&& (4611686018427387903 : Int64)))))), .second, .val (.long (((((own_mi (u0 &&& (4611686018427387903 : Int64))) + (own_mi (u1 &&& (4611686018427387903 : Int64)))) + (own_mi (u2 &&& (4611686018427387903 : Int64)))) - (own_mn (own_mi (u0 &&& (4611686018427387903 : Int64))) (own_mn (own_mi (u1 &&& (4611686018427387903 : Int64))) (own_mi (u2 &&& (4611686018427387903 : Int64)))))) - (own_mx (own_mi (u0 &&& (4611686018427387903 : Int64))) (own_mx (own_mi (u1 &&& (4611686018427387903 : Int64))) (own_mi (u2 &&& (4611686018427387903 : Int64))))))), .second, .val (.ref b8), .val (.int (1 : Int32))] d_205 rfl ?_
  refine w_iload X d_207 rfl ?_
  refine w_ifeq X d_209 (fun hc => absurd hc (by decide)) (fun _ => ?_)
  refine w_aload X d_212 rfl (rfl) ?_
  refine w_bipush X (100 : Int32) d_214 rfl ?_
  refine w_callV X d_216 (wd_165 hw) (wd_166 hw) (notFace_of_selects (args := #[]) (mvT X.hZ (wd_168 hw))) (wd_168 hw) (wd_167 hw) (wd_16 hw) (wd_169 hw) (by decide) (own_RT.exa R16) (argsL := [(.int (100 : Int32))]) (S := []) (m_pc hw (nd := (3 : Int64)) R16 own_ne3 (by decide) (own_tot3 (by decide))) pd_28 rfl rfl rfl (by decide) (leR rfl) (by decide) (by decide) (fun T h17 v17 L17 X q17 => ?_)
  obtain ⟨rfl, ev17, R17⟩ := q17
  show Wp _ _ _ _ (T.setTop (mkF _ _ _ [(.long (own_pc (3 : Int64) 0 (own_ins (((u2 &&& (4611686018427387903 : Int64)) + 500) / 1000) (own_ins (((u1 &&& (4611686018427387903 : Int64)) + 500) / 1000) (own_ins (((u0 &&& (4611686018427387903 : Int64)) + 500) / 1000) [])))))]))
  refine w_lload X d_219 rfl ?_
  refine w_lne X d_221 d_222 (fun hc => absurd (own_hi u0 u1 u2) hc) (fun _ => ?_)
  refine w_iconst X (1 : Int32) d_225 rfl ?_
  refine w_goto X d_226 ?_
  refine w_istore X #[.val (.long u0), .second, .val (.long u1), .second, .val (.long u2), .second, .val (.long (u0 &&& (4611686018427387903 : Int64))), .second, .val (.long (u1 &&& (4611686018427387903 : Int64))), .second, .val (.long (u2 &&& (4611686018427387903 : Int64))), .second, .val (.long (own_mi (u0 &&& (4611686018427387903 : Int64)))), .second, .val (.long (own_mi (u1 &&& (4611686018427387903 : Int64)))), .second, .val (.long (own_mi (u2 &&& (4611686018427387903 : Int64)))), .second, .val (.long (own_mn (own_mi (u0 &&& (4611686018427387903 : Int64))) (own_mn (own_mi (u1 &&& (4611686018427387903 : Int64))) (own_mi (u2 &&& (4611686018427387903 : Int64)))))), .second, .val (.long (own_mx (own_mi (u0 &&& (4611686018427387903 : Int64))) (own_mx (own_mi (u1 &&& (4611686018427387903 : Int64))) (own_mi (u2 &&& (4611686018427387903 : Int64)))))), .second, .val (.long (((((own_mi (u0 &&& (4611686018427387903 : Int64))) + (own_mi (u1 &&& (4611686018427387903 : Int64)))) + (own_mi (u2 &&& (4611686018427387903 : Int64)))) - (own_mn (own_mi (u0 &&& (4611686018427387903 : Int64))) (own_mn (own_mi (u1 &&& (4611686018427387903 : Int64))) (own_mi (u2 &&& (4611686018427387903 : Int64)))))) - (own_mx (own_mi (u0 &&& (4611686018427387903 : Int64))) (own_mx (own_mi (u1 &&& (4611686018427387903 : Int64))) (own_mi (u2 &&& (4611686018427387903 : Int64))))))), .second, .val (.ref b8), .val (.int (1 : Int32))] d_230 rfl ?_
  refine w_iload X d_232 rfl ?_
  exact v_ret_boolean X Y (1 : Int32) (by decide) d_234 rfl (by decide) (by decide)
theorem comes_1 {Post : Tables → Env → Array Value → State → Outcome → State → Prop} (hpost : ∀ tb e args s v u, (limb_1_1.after args s (.returned v) u = true ∧ limb_1_2.after args s (.returned v) u = true ∧ True) → ReturnedEndW s (.returned v) u (Jvm.fieldLocs frame_1_writes args s ++ Jvm.arrayLocs frame_1_arrays args s ++ Jvm.staticLocs frame_1_statics s) 32 192 → Post tb e args s (.returned v) u) :
    ArmFor flags0 classFile x code maxLocals ret World_1 tables_1 room_1 Calls_1 rest_1 Pre_1 Post := by
  intro l hfl _ _ p e ha hc hk s m args below hf hA hF happ hP
  obtain ⟨hcalls, hrest, hpre⟩ := hP
  obtain ⟨-, -, -, hnamed, -, -, -, hat⟩ := (Spec.applies_iff hf).mp happ
  obtain ⟨hg, hn⟩ := and_e (Cond.before_iff.mp (show (Jvm.Cond.and given_1 narrow_1).before args s = true from hpre))
  obtain ⟨hcount, hg1⟩ := and_e hg
  obtain ⟨ha0, hg2⟩ := and_e hg1
  obtain ⟨ha1, hg3⟩ := and_e hg2
  have ha2 := hg3
  obtain ⟨w0, w1, w2, rfl⟩ : ∃ w0 w1 w2 : Value, args = #[w0, w1, w2] := by
    have hs : args.size = 3 := by simpa [Cond.value, given_1] using hcount
    obtain ⟨L⟩ := args
    match L, hs with
    | [w0, w1, w2], _ => exact ⟨w0, w1, w2, rfl⟩
  have hw := fun d (hd : d ∈ tables_1) => atoms_spec (ws := Jvm.Cond.code x code maxLocals ret :: tables_1) hat d (List.mem_cons_of_mem _ hd)
  have hfit : Fit s := fun {y c} hc i hi => by
    obtain ⟨ha, rfl⟩ := Array.getElem?_eq_some_iff.mp hc
    have q := List.all_eq_true.mp ((Array.all_eq_true_iff_forall_mem.mp hF) _ (Array.getElem_mem ha)) i (List.mem_range.mpr hi)
    simpa [Array.getElem?_eq_getElem hi] using q
  obtain ⟨hsets, hown0⟩ := atoms_of _ (rest_1_c_eq ▸ (show rest_1_c.before _ s = true from hrest))
  have hr0 := Cond.before_iff.mp hown0
  obtain ⟨i0, ei0⟩ := isL_v ha0
  obtain rfl : w0 = (.long i0) := Option.some.inj ei0
  obtain ⟨i1, ei1⟩ := isL_v ha1
  obtain rfl : w1 = (.long i1) := Option.some.inj ei1
  obtain ⟨i2, ei2⟩ := isL_v ha2
  obtain rfl : w2 = (.long i2) := Option.some.inj ei2
  obtain ⟨cF, lam, hL⟩ := own_Lof hw
  have n_ca := Cond.before_iff.mp (hsets _ (List.mem_of_getElem? (i := 3) rfl))
  obtain ⟨ca, e_ca⟩ := exa_v n_ca
  have S_ca : Sta s s.heap "java/lang/Long$LongCache" "cache" "[Ljava/lang/Long;" (.ref ca) := Sta.start e_ca (Or.inl (hsets _ (List.mem_of_getElem? (i := 1) rfl)))
  obtain ⟨cc, A_ca⟩ := Arr.start e_ca (Cond.before_iff.mp (hsets _ (List.mem_of_getElem? (i := 2) rfl)))
  obtain ⟨z1, z2⟩ := own_sz e_ca (A_ca.fin (Vm.Alike.refl _)) (eqv_i rfl (Cond.before_iff.mp (hsets _ (List.mem_of_getElem? (i := 4) rfl))))
  have hC : own_C s ca cc := ⟨S_ca, Bxs.start (fun _ => e_ca) A_ca z1 z2 (by decide) (Cond.before_iff.mp (hsets _ (List.mem_of_getElem? (i := 5) rfl))) (fun X j nn h => eqv_l (i2l_at (own_sub (idx_at nn))) h)⟩
  obtain ⟨n, o, h1, h2, h3, v, L, rfl, ⟨N, -, -, rfl⟩, hq⟩ := m_law (l := l) (Z := s) (n0 := s.heap.size) hw rfl i0 i1 i2 hL hC p e ha hc hk s m _ below hf ((Spec.applies_iff_loose hf).mp happ).1 ⟨rfl, rfl⟩ trivial
  refine ⟨n, _, h1, h2, h3, hpost _ _ _ _ _ _ ⟨Cond.after_iff.mpr rfl, Cond.after_iff.mpr (eq_i res_at (Term.int_eval (1)) rfl), trivial⟩ ⟨hq.1, hq.2.1, hq.2.2.1, (hq.2.2.2.sift fun y hy => Or.inr (N y hy)).mono (by decide) (by decide)⟩⟩
theorem main_1_1 : Claimed_1_1 := comes_1 fun _ _ _ _ _ _ h hF => ⟨h.1, hF⟩
theorem main_1_2 : Claimed_1_2 := comes_1 fun _ _ _ _ _ _ h hF => ⟨h.2.1, hF⟩
end Jvm.Pilot.@@N@@
namespace Jvm.Pilot.@@N@@
open Jvm Jvm.ClassFile Sem Op Lib Jvm.Free Jvm.Stand Jvm.Pilot.@@N@@.Jvm.D
/-! MADE BY PROGRAM (witnessworld.py) out of the Statement's table words and the real class files: 37 classes; the members and pool entries that the words name. The judged class is class 1, her method 2. -/
namespace start1
open Jvm.ClassFile
def u (s : String) : CpInfo := .utf8 (stringToUtf16 s)
/-- a pool by its gaps: so many unusable entries, then the entry; so many at the end -/
def gap : Nat → List CpInfo → List CpInfo
  | 0, r => r
  | n + 1, r => .unusable :: gap n r
def poolList (es : List (Nat × CpInfo)) (last : Nat) : List CpInfo := es.foldr (fun e r => gap e.1 (e.2 :: r)) (gap last [])
def pool (es : List (Nat × CpInfo)) (last : Nat) : Array CpInfo := ⟨poolList es last⟩
def fileOf (pool : Array CpInfo) (this : Nat) (attrs : Array Attribute := #[]) (ms : Array MethodInfo := #[]) (fl : Nat := 33) (sup : Nat := 0) (ifs : Array Nat := #[]) (fds : Array FieldInfo := #[]) : ClassFile where
  minorVersion := 0
  majorVersion := 65
  constantPool := pool
  accessFlags := fl
  thisClass := this
  superClass := sup
  interfaces := ifs
  fields := fds
  methods := ms
  attributes := attrs
def plain (name : String) (sup : Option ClassId) : Class where
  name := name
  kind := .ordinary
  loader := none
  accessFlags := 33
  super := sup
  interfaces := #[]
  cf := none
  fields := #[]
  methods := #[]
  instanceTypes := #[]
  staticTypes := #[]
  resolved := #[]
  callSites := []
  init := .initialized
  statics := none
  mirror := none

def pool0 : Array CpInfo := pool [(5, u "<init>"), (0, u "()V"), (1, .class_ 10), (1, u "java/lang/Object")] 113

def k0c0 : Code := { maxStack := 0, maxLocals := 1, code := object_method_1_code, exceptionTable := #[], attributes := #[] }
def k0m0 : Method := { name := "<init>", desc := "()V", sig := { parameters := [], returnType := none }, accessFlags := 1, code := some k0c0 }
/-- java/lang/Object -/
def k0 : Class := { plain "java/lang/Object" none with
  accessFlags := 33
  interfaces := #[]
  cf := some (fileOf pool0 8 #[] #[{ accessFlags := 1, nameIndex := 5, descriptorIndex := 6, attributes := #[] }] 33 0 #[] #[])
  fields := #[]
  methods := #[k0m0]
  instanceTypes := #[]
  staticTypes := #[]
  resolved := Array.replicate 124 none
  statics := none }

def pool1 : Array CpInfo := pool [(2, .class_ 4), (0, .nameAndType 5 6), (0, u "java/lang/Object"), (0, u "<init>"), (0, u "()V"), (0, .long 1000), (1, .long 500), (1, .long 4611686018427387903), (1, .methodref 14 15), (0, .class_ 16), (0, .nameAndType 17 18), (0, u "com/example/bounded_lock/boundedlock/cli/RoundTimesAddPinLaw"), (0, u "micros"), (0, u "(J)J"), (0, .methodref 20 21), (0, .class_ 22), (0, .nameAndType 23 24), (0, u "java/lang/Math"), (0, u "min"), (0, u "(JJ)J"), (0, .methodref 20 26), (0, .nameAndType 27 24), (0, u "max"), (0, .class_ 29), (0, u "com/example/bounded_lock/boundedlock/cli/RoundTimes"), (0, .methodref 28 3), (0, .methodref 28 32), (0, .nameAndType 33 34), (0, u "add"), (0, u "(J)V"), (0, .methodref 28 36), (0, .nameAndType 37 38), (0, u "rounds"), (0, u "()J"), (0, .long 3), (1, .methodref 28 42), (0, .nameAndType 43 44), (0, u "percentile"), (0, u "(I)J"), (3, u "law"), (0, u "(JJJ)Z")] 2

def k1m0 : Method := { name := "<init>", desc := "()V", sig := { parameters := [], returnType := none }, accessFlags := 1, code := none }
def k1c1 : Code := { maxStack := 6, maxLocals := 6, code := method_2_code, exceptionTable := #[], attributes := #[] }
def k1m1 : Method := { name := "micros", desc := "(J)J", sig := { parameters := [.long], returnType := some .long }, accessFlags := 10, code := some k1c1 }
def k1c2 : Code := { maxStack := 6, maxLocals := 26, code := code, exceptionTable := #[], attributes := #[] }
def k1m2 : Method := { name := "law", desc := "(JJJ)Z", sig := { parameters := [.long, .long, .long], returnType := some .boolean }, accessFlags := 9, code := some k1c2 }
/-- com/example/bounded_lock/boundedlock/cli/RoundTimesAddPinLaw -/
def k1 : Class := { plain "com/example/bounded_lock/boundedlock/cli/RoundTimesAddPinLaw" (some 0) with
  accessFlags := 49
  interfaces := #[]
  cf := some (fileOf pool1 14 #[] #[{ accessFlags := 1, nameIndex := 5, descriptorIndex := 6, attributes := #[] }, { accessFlags := 10, nameIndex := 17, descriptorIndex := 18, attributes := #[] }, { accessFlags := 9, nameIndex := 48, descriptorIndex := 49, attributes := #[] }] 49 2 #[] #[])
  fields := #[]
  methods := #[k1m0, k1m1, k1m2]
  instanceTypes := #[]
  staticTypes := #[]
  resolved := Array.replicate 52 none
  statics := none }

def pool2 : Array CpInfo := pool [(1, .class_ 2), (0, u "java/lang/Math"), (1, .class_ 6), (1, u "java/lang/Object"), (0, u "<init>"), (0, u "()V"), (89, .class_ 100), (1, u "java/lang/Math$RandomNumberGeneratorHolder"), (20, u "(JJ)J"), (50, u "negativeZeroFloatBits"), (0, u "J"), (2, u "negativeZeroDoubleBits"), (21, u "max"), (2, u "min"), (43, u "$assertionsDisabled"), (0, u "Z"), (91, u "twoToTheDoubleScaleDown"), (0, u "D"), (4, u "twoToTheDoubleScaleUp"), (9, u "E"), (3, u "PI"), (2, u "TAU"), (2, u "DEGREES_TO_RADIANS"), (0, u "RADIANS_TO_DEGREES")] 94

def k2m0 : Method := { name := "<init>", desc := "()V", sig := { parameters := [], returnType := none }, accessFlags := 2, code := none }
def k2c1 : Code := { maxStack := 4, maxLocals := 4, code := jdk_29_method_66_code, exceptionTable := #[], attributes := #[] }
def k2m1 : Method := { name := "max", desc := "(JJ)J", sig := { parameters := [.long, .long], returnType := some .long }, accessFlags := 9, code := some k2c1 }
def k2c2 : Code := { maxStack := 4, maxLocals := 4, code := jdk_29_method_70_code, exceptionTable := #[], attributes := #[] }
def k2m2 : Method := { name := "min", desc := "(JJ)J", sig := { parameters := [.long, .long], returnType := some .long }, accessFlags := 9, code := some k2c2 }
/-- java/lang/Math -/
def k2 : Class := { plain "java/lang/Math" (some 0) with
  accessFlags := 49
  interfaces := #[]
  cf := some (fileOf pool2 1 #[.nestMembers #[98]] #[{ accessFlags := 2, nameIndex := 7, descriptorIndex := 8, attributes := #[] }, { accessFlags := 9, nameIndex := 198, descriptorIndex := 121, attributes := #[] }, { accessFlags := 9, nameIndex := 201, descriptorIndex := 121, attributes := #[] }] 49 4 #[] #[{ accessFlags := 25, nameIndex := 354, descriptorIndex := 339, attributes := #[] }, { accessFlags := 25, nameIndex := 358, descriptorIndex := 339, attributes := #[] }, { accessFlags := 25, nameIndex := 361, descriptorIndex := 339, attributes := #[] }, { accessFlags := 26, nameIndex := 364, descriptorIndex := 339, attributes := #[] }, { accessFlags := 26, nameIndex := 365, descriptorIndex := 339, attributes := #[] }, { accessFlags := 26, nameIndex := 172, descriptorIndex := 173, attributes := #[] }, { accessFlags := 26, nameIndex := 176, descriptorIndex := 173, attributes := #[] }, { accessFlags := 8, nameIndex := 344, descriptorIndex := 339, attributes := #[] }, { accessFlags := 8, nameIndex := 338, descriptorIndex := 339, attributes := #[] }, { accessFlags := 4120, nameIndex := 245, descriptorIndex := 246, attributes := #[] }])
  fields := #[{ name := "E", type := .double, accessFlags := 25, slot := 0, constantValue := 0 }, { name := "PI", type := .double, accessFlags := 25, slot := 1, constantValue := 0 }, { name := "TAU", type := .double, accessFlags := 25, slot := 2, constantValue := 0 }, { name := "DEGREES_TO_RADIANS", type := .double, accessFlags := 26, slot := 3, constantValue := 0 }, { name := "RADIANS_TO_DEGREES", type := .double, accessFlags := 26, slot := 4, constantValue := 0 }, { name := "negativeZeroFloatBits", type := .long, accessFlags := 26, slot := 5, constantValue := 0 }, { name := "negativeZeroDoubleBits", type := .long, accessFlags := 26, slot := 6, constantValue := 0 }, { name := "twoToTheDoubleScaleUp", type := .double, accessFlags := 8, slot := 7, constantValue := 0 }, { name := "twoToTheDoubleScaleDown", type := .double, accessFlags := 8, slot := 8, constantValue := 0 }, { name := "$assertionsDisabled", type := .boolean, accessFlags := 4120, slot := 9, constantValue := 0 }]
  methods := #[k2m0, k2m1, k2m2]
  instanceTypes := #[]
  staticTypes := #[.double, .double, .double, .double, .double, .long, .long, .double, .double, .boolean]
  resolved := Array.replicate 460 none
  statics := none }

def pool3 : Array CpInfo := pool [(1, .methodref 2 3), (0, .class_ 4), (0, .nameAndType 5 6), (0, u "java/lang/Object"), (0, u "<init>"), (0, u "()V"), (0, .class_ 8), (0, u "java/util/TreeMap"), (0, .methodref 7 3), (0, .fieldref 11 12), (0, .class_ 13), (0, .nameAndType 14 15), (0, u "com/example/bounded_lock/boundedlock/cli/RoundTimes"), (0, u "counts"), (0, u "Ljava/util/TreeMap;"), (0, .long 500), (1, .long 1000), (1, .methodref 21 22), (0, .class_ 23), (0, .nameAndType 24 25), (0, u "java/lang/Long"), (0, u "valueOf"), (0, u "(J)Ljava/lang/Long;"), (0, .invokeDynamic 0 27), (0, .nameAndType 28 29), (0, u "apply"), (0, u "()Ljava/util/function/BiFunction;"), (0, .methodref 7 31), (0, .nameAndType 32 33), (0, u "merge"), (0, u "(Ljava/lang/Object;Ljava/lang/Object;Ljava/util/function/BiFunction;)Ljava/lang/Object;"), (0, .fieldref 11 35), (0, .nameAndType 36 37), (0, u "rounds"), (0, u "J"), (0, .methodref 7 39), (0, .nameAndType 40 41), (0, u "entrySet"), (0, u "()Ljava/util/Set;"), (0, .interfaceMethodref 43 44), (0, .class_ 45), (0, .nameAndType 46 47), (0, u "java/util/Set"), (0, u "iterator"), (0, u "()Ljava/util/Iterator;"), (0, .interfaceMethodref 49 50), (0, .class_ 51), (0, .nameAndType 52 53), (0, u "java/util/Iterator"), (0, u "hasNext"), (0, u "()Z"), (0, .interfaceMethodref 49 55), (0, .nameAndType 56 57), (0, u "next"), (0, u "()Ljava/lang/Object;"), (0, .class_ 59), (0, u "java/util/Map$Entry"), (0, .interfaceMethodref 58 61), (0, .nameAndType 62 57), (0, u "getKey"), (0, .interfaceMethodref 58 64), (0, .nameAndType 65 57), (0, u "getValue"), (0, .long 99), (1, .long 100), (1, .methodref 71 72), (0, .class_ 73), (0, .nameAndType 74 75), (0, u "java/lang/Math"), (0, u "max"), (0, u "(JJ)J"), (0, .methodref 21 77), (0, .nameAndType 78 79), (0, u "longValue"), (0, u "()J"), (11, u "add"), (0, u "(J)V"), (3, u "percentile"), (0, u "(I)J"), (3, .methodType 102), (0, u "(Ljava/lang/Object;Ljava/lang/Object;)Ljava/lang/Object;"), (0, .methodHandle 6 104), (0, .methodref 21 105), (0, .nameAndType 106 75), (0, u "sum"), (0, .methodType 108), (0, u "(Ljava/lang/Long;Ljava/lang/Long;)Ljava/lang/Long;"), (0, .methodHandle 6 110), (0, .methodref 111 112), (0, .class_ 113), (0, .nameAndType 114 115), (0, u "java/lang/invoke/LambdaMetafactory"), (0, u "metafactory"), (0, u "(Ljava/lang/invoke/MethodHandles$Lookup;Ljava/lang/String;Ljava/lang/invoke/MethodType;Ljava/lang/invoke/MethodType;Ljava/lang/invoke/MethodHandle;Ljava/lang/invoke/MethodType;)Ljava/lang/invoke/CallSite;")] 9

def k3c0 : Code := { maxStack := 3, maxLocals := 1, code := prog_2_method_1_code, exceptionTable := #[], attributes := #[] }
def k3m0 : Method := { name := "<init>", desc := "()V", sig := { parameters := [], returnType := none }, accessFlags := 0, code := some k3c0 }
def k3c1 : Code := { maxStack := 5, maxLocals := 3, code := prog_2_method_2_code, exceptionTable := #[], attributes := #[] }
def k3m1 : Method := { name := "add", desc := "(J)V", sig := { parameters := [.long], returnType := none }, accessFlags := 0, code := some k3c1 }
def k3c2 : Code := { maxStack := 2, maxLocals := 1, code := prog_2_method_4_code, exceptionTable := #[], attributes := #[] }
def k3m2 : Method := { name := "rounds", desc := "()J", sig := { parameters := [], returnType := some .long }, accessFlags := 0, code := some k3c2 }
def k3c3 : Code := { maxStack := 6, maxLocals := 8, code := prog_2_method_5_code, exceptionTable := #[], attributes := #[] }
def k3m3 : Method := { name := "percentile", desc := "(I)J", sig := { parameters := [.int], returnType := some .long }, accessFlags := 0, code := some k3c3 }
/-- com/example/bounded_lock/boundedlock/cli/RoundTimes -/
def k3 : Class := { plain "com/example/bounded_lock/boundedlock/cli/RoundTimes" (some 0) with
  accessFlags := 48
  interfaces := #[]
  cf := some (fileOf pool3 11 #[.bootstrapMethods #[⟨109, #[101, 103, 107]⟩]] #[{ accessFlags := 0, nameIndex := 5, descriptorIndex := 6, attributes := #[] }, { accessFlags := 0, nameIndex := 91, descriptorIndex := 92, attributes := #[] }, { accessFlags := 0, nameIndex := 36, descriptorIndex := 79, attributes := #[] }, { accessFlags := 0, nameIndex := 96, descriptorIndex := 97, attributes := #[] }] 48 2 #[] #[{ accessFlags := 18, nameIndex := 14, descriptorIndex := 15, attributes := #[] }, { accessFlags := 2, nameIndex := 36, descriptorIndex := 37, attributes := #[] }])
  fields := #[{ name := "counts", type := (.object "java/util/TreeMap"), accessFlags := 18, slot := 0, constantValue := 0 }, { name := "rounds", type := .long, accessFlags := 2, slot := 1, constantValue := 0 }]
  methods := #[k3m0, k3m1, k3m2, k3m3]
  instanceTypes := #[(.object "java/util/TreeMap"), .long]
  staticTypes := #[]
  resolved := Array.replicate 125 none
  callSites := [(1, 20, .constant 1)]
  statics := none }

def pool4 : Array CpInfo := pool [(2, .class_ 4), (1, u "java/util/Map"), (31, .class_ 37), (0, u "java/util/Map$Entry"), (55, .class_ 94), (0, u "java/lang/Object")] 168

/-- java/util/Map -/
def k4 : Class := { plain "java/util/Map" (some 0) with
  accessFlags := 1537
  interfaces := #[]
  cf := some (fileOf pool4 2 #[.nestMembers #[36]] #[] 1537 93 #[] #[])
  fields := #[]
  methods := #[]
  instanceTypes := #[]
  staticTypes := #[]
  resolved := Array.replicate 263 none
  statics := none }

def pool5 : Array CpInfo := pool [(1, .methodref 2 3), (0, .class_ 4), (0, .nameAndType 5 6), (0, u "java/lang/Object"), (0, u "<init>"), (0, u "()V"), (1, .class_ 10), (1, u "java/util/AbstractMap"), (42, .class_ 54), (0, u "java/util/Map"), (9, u "keySet"), (0, u "Ljava/util/Set;"), (0, .class_ 67), (0, u "java/util/AbstractMap$1"), (5, u "values"), (0, u "Ljava/util/Collection;"), (0, .class_ 76), (0, u "java/util/AbstractMap$2"), (104, .class_ 182), (0, u "java/util/AbstractMap$ViewCollection"), (0, .class_ 184), (0, u "java/util/AbstractMap$SimpleImmutableEntry"), (0, .class_ 186), (0, u "java/util/AbstractMap$SimpleEntry"), (0, .class_ 188), (0, u "java/util/AbstractMap$2$1"), (0, .class_ 190), (0, u "java/util/AbstractMap$1$1")] 5

def k5c0 : Code := { maxStack := 1, maxLocals := 1, code := jdk_71_method_1_code, exceptionTable := #[], attributes := #[] }
def k5m0 : Method := { name := "<init>", desc := "()V", sig := { parameters := [], returnType := none }, accessFlags := 4, code := some k5c0 }
/-- java/util/AbstractMap -/
def k5 : Class := { plain "java/util/AbstractMap" (some 0) with
  accessFlags := 1057
  interfaces := #[4]
  cf := some (fileOf pool5 8 #[.nestMembers #[181, 183, 185, 75, 187, 66, 189]] #[{ accessFlags := 4, nameIndex := 5, descriptorIndex := 6, attributes := #[] }] 1057 2 #[53] #[{ accessFlags := 128, nameIndex := 64, descriptorIndex := 65, attributes := #[] }, { accessFlags := 128, nameIndex := 73, descriptorIndex := 74, attributes := #[] }])
  fields := #[{ name := "keySet", type := (.object "java/util/Set"), accessFlags := 128, slot := 0, constantValue := 0 }, { name := "values", type := (.object "java/util/Collection"), accessFlags := 128, slot := 1, constantValue := 0 }]
  methods := #[k5m0]
  instanceTypes := #[(.object "java/util/Set"), (.object "java/util/Collection")]
  staticTypes := #[]
  resolved := Array.replicate 196 none
  statics := none }

def pool6 : Array CpInfo := pool [(2, .class_ 4), (1, u "java/util/SequencedMap"), (38, .class_ 44), (0, u "java/util/SequencedMap$1SeqKeySet"), (3, .class_ 49), (0, u "java/util/SequencedMap$1SeqValues"), (1, .class_ 52), (0, u "java/util/SequencedMap$1SeqEntrySet"), (1, .class_ 55), (0, u "java/lang/Object"), (0, .class_ 57), (0, u "java/util/Map")] 48

/-- java/util/SequencedMap -/
def k6 : Class := { plain "java/util/SequencedMap" (some 0) with
  accessFlags := 1537
  interfaces := #[4]
  cf := some (fileOf pool6 2 #[.nestMembers #[51, 48, 43]] #[] 1537 54 #[56] #[])
  fields := #[]
  methods := #[]
  instanceTypes := #[]
  staticTypes := #[]
  resolved := Array.replicate 106 none
  statics := none }

def pool7 : Array CpInfo := pool [(14, .class_ 16), (1, u "java/util/SortedMap"), (2, .class_ 20), (0, u "java/lang/Object"), (0, .class_ 22), (0, u "java/util/SequencedMap")] 50

/-- java/util/SortedMap -/
def k7 : Class := { plain "java/util/SortedMap" (some 0) with
  accessFlags := 1537
  interfaces := #[6]
  cf := some (fileOf pool7 14 #[] #[] 1537 19 #[21] #[])
  fields := #[]
  methods := #[]
  instanceTypes := #[]
  staticTypes := #[]
  resolved := Array.replicate 73 none
  statics := none }

def pool8 : Array CpInfo := pool [(2, .class_ 4), (1, u "java/util/NavigableMap"), (5, .class_ 11), (0, u "java/lang/Object"), (0, .class_ 13), (0, u "java/util/SortedMap")] 53

/-- java/util/NavigableMap -/
def k8 : Class := { plain "java/util/NavigableMap" (some 0) with
  accessFlags := 1537
  interfaces := #[7]
  cf := some (fileOf pool8 2 #[] #[] 1537 10 #[12] #[])
  fields := #[]
  methods := #[]
  instanceTypes := #[]
  staticTypes := #[]
  resolved := Array.replicate 67 none
  statics := none }

def pool9 : Array CpInfo := pool [(1, .class_ 2), (0, u "java/lang/Cloneable"), (0, .class_ 4), (0, u "java/lang/Object")] 2

/-- java/lang/Cloneable -/
def k9 : Class := { plain "java/lang/Cloneable" (some 0) with
  accessFlags := 1537
  interfaces := #[]
  cf := some (fileOf pool9 1 #[] #[] 1537 3 #[] #[])
  fields := #[]
  methods := #[]
  instanceTypes := #[]
  staticTypes := #[]
  resolved := Array.replicate 7 none
  statics := none }

def pool10 : Array CpInfo := pool [(1, .class_ 2), (0, u "java/io/Serializable"), (0, .class_ 4), (0, u "java/lang/Object")] 2

/-- java/io/Serializable -/
def k10 : Class := { plain "java/io/Serializable" (some 0) with
  accessFlags := 1537
  interfaces := #[]
  cf := some (fileOf pool10 1 #[] #[] 1537 3 #[] #[])
  fields := #[]
  methods := #[]
  instanceTypes := #[]
  staticTypes := #[]
  resolved := Array.replicate 7 none
  statics := none }

def pool11 : Array CpInfo := pool [(1, .methodref 2 3), (0, .class_ 4), (0, .nameAndType 5 6), (0, u "java/util/AbstractMap"), (0, u "<init>"), (0, u "()V"), (0, .fieldref 8 9), (0, .class_ 10), (0, .nameAndType 11 12), (0, u "java/util/TreeMap"), (0, u "size"), (0, u "I"), (0, .fieldref 8 14), (0, .nameAndType 15 12), (0, u "modCount"), (0, .fieldref 8 17), (0, .nameAndType 18 19), (0, u "comparator"), (0, u "Ljava/util/Comparator;"), (14, u "entrySet"), (0, u "()Ljava/util/Set;"), (20, u "getFirstEntry"), (0, u "()Ljava/util/TreeMap$Entry;"), (0, .fieldref 59 60), (0, .class_ 61), (0, .nameAndType 62 63), (0, u "java/util/TreeMap$Entry"), (0, u "value"), (0, u "Ljava/lang/Object;"), (6, u "successor"), (0, u "(Ljava/util/TreeMap$Entry;)Ljava/util/TreeMap$Entry;"), (2, u "key"), (11, .class_ 88), (1, u "java/util/Objects"), (6, .methodref 86 96), (0, .nameAndType 97 98), (0, u "requireNonNull"), (0, u "(Ljava/lang/Object;)Ljava/lang/Object;"), (0, .class_ 100), (0, u "java/lang/Comparable"), (0, .fieldref 8 102), (0, .nameAndType 103 104), (0, u "root"), (0, u "Ljava/util/TreeMap$Entry;"), (0, .fieldref 59 106), (0, .nameAndType 74 63), (0, .interfaceMethodref 99 108), (0, .nameAndType 109 110), (0, u "compareTo"), (0, u "(Ljava/lang/Object;)I"), (0, .fieldref 59 112), (0, .nameAndType 113 104), (0, u "left"), (0, .fieldref 59 115), (0, .nameAndType 116 104), (0, u "right"), (2, .nameAndType 121 122), (1, u "compare"), (0, u "(Ljava/lang/Object;Ljava/lang/Object;)I"), (0, .methodref 8 119), (0, .fieldref 59 125), (0, .nameAndType 126 104), (0, u "parent"), (8, .methodref 8 136), (0, .nameAndType 137 138), (0, u "addEntryToEmptyMap"), (0, u "(Ljava/lang/Object;Ljava/lang/Object;)V"), (0, .methodref 8 140), (0, .nameAndType 141 142), (0, u "addEntry"), (0, u "(Ljava/lang/Object;Ljava/lang/Object;Ljava/util/TreeMap$Entry;Z)V"), (3, u "(Ljava/util/TreeMap$Entry;Ljava/lang/Object;Ljava/util/function/BiFunction;)Ljava/lang/Object;"), (3, u "(Ljava/lang/Object;Ljava/lang/Object;Ljava/util/function/BiFunction;)Ljava/lang/Object;"), (0, .methodref 8 152), (0, .nameAndType 153 146), (0, u "mergeValue"), (4, u "apply"), (3, .interfaceMethodref 163 164), (0, .class_ 165), (0, .nameAndType 158 166), (0, u "java/util/function/BiFunction"), (0, u "(Ljava/lang/Object;Ljava/lang/Object;)Ljava/lang/Object;"), (0, .methodref 59 168), (0, .nameAndType 5 169), (0, u "(Ljava/lang/Object;Ljava/lang/Object;Ljava/util/TreeMap$Entry;)V"), (0, .methodref 8 171), (0, .nameAndType 172 173), (0, u "fixAfterInsertion"), (0, u "(Ljava/util/TreeMap$Entry;)V"), (14, .fieldref 8 189), (0, .nameAndType 34 190), (0, u "Ljava/util/TreeMap$EntrySet;"), (2, u "navigableKeySet"), (0, u "Ljava/util/TreeMap$KeySet;"), (2, u "descendingMap"), (0, u "Ljava/util/NavigableMap;"), (23, .class_ 223), (0, u "java/util/TreeMap$KeySet"), (7, .class_ 232), (0, u "java/util/NavigableMap"), (4, .class_ 238), (0, u "java/util/TreeMap$Values"), (1, .nameAndType 5 241), (0, u "(Ljava/util/TreeMap;)V"), (0, .class_ 243), (0, u "java/util/TreeMap$EntrySet"), (0, .methodref 242 240), (0, .class_ 246), (0, u "java/util/TreeMap$DescendingSubMap"), (3, .class_ 251), (0, u "java/util/TreeMap$AscendingSubMap"), (17, .class_ 270), (0, u "java/util/TreeMap$KeyIterator"), (3, .class_ 275), (0, u "java/util/TreeMap$DescendingKeyIterator"), (14, .fieldref 59 291), (0, .nameAndType 292 293), (0, u "color"), (0, u "Z"), (0, .methodref 8 295), (0, .nameAndType 296 71), (0, u "parentOf"), (0, .methodref 8 298), (0, .nameAndType 299 71), (0, u "leftOf"), (0, .methodref 8 301), (0, .nameAndType 302 71), (0, u "rightOf"), (0, .methodref 8 304), (0, .nameAndType 305 306), (0, u "colorOf"), (0, u "(Ljava/util/TreeMap$Entry;)Z"), (0, .methodref 8 308), (0, .nameAndType 309 310), (0, u "setColor"), (0, u "(Ljava/util/TreeMap$Entry;Z)V"), (0, .methodref 8 312), (0, .nameAndType 313 173), (0, u "rotateLeft"), (0, .methodref 8 315), (0, .nameAndType 316 173), (0, u "rotateRight"), (71, .class_ 389), (0, u "java/util/TreeMap$NavigableSubMap"), (1, .class_ 392), (0, u "java/util/TreeMap$KeySpliterator"), (3, .class_ 397), (0, u "java/util/TreeMap$DescendingKeySpliterator"), (4, u "UNBOUNDED"), (0, .class_ 404), (0, u "java/lang/Cloneable"), (0, .class_ 406), (0, u "java/io/Serializable"), (6, u "RED"), (2, u "BLACK"), (1, u "serialVersionUID"), (0, u "J"), (62, u "merge"), (151, .class_ 635), (0, u "java/util/TreeMap$EntrySpliterator"), (0, .class_ 637), (0, u "java/util/TreeMap$ValueSpliterator"), (0, .class_ 639), (0, u "java/util/TreeMap$TreeMapSpliterator"), (0, .class_ 641), (0, u "java/util/TreeMap$SubMap"), (0, .class_ 643), (0, u "java/util/TreeMap$DescendingSubMap$DescendingEntrySetView"), (0, .class_ 645), (0, u "java/util/TreeMap$AscendingSubMap$AscendingEntrySetView"), (0, .class_ 647), (0, u "java/util/TreeMap$NavigableSubMap$DescendingSubMapKeyIterator"), (0, .class_ 649), (0, u "java/util/TreeMap$NavigableSubMap$SubMapKeyIterator"), (0, .class_ 651), (0, u "java/util/TreeMap$NavigableSubMap$DescendingSubMapEntryIterator"), (0, .class_ 653), (0, u "java/util/TreeMap$NavigableSubMap$SubMapEntryIterator"), (0, .class_ 655), (0, u "java/util/TreeMap$NavigableSubMap$SubMapIterator"), (0, .class_ 657), (0, u "java/util/TreeMap$NavigableSubMap$EntrySetView"), (0, .class_ 659), (0, u "java/util/TreeMap$ValueIterator"), (0, .class_ 661), (0, u "java/util/TreeMap$EntryIterator"), (0, .class_ 663), (0, u "java/util/TreeMap$PrivateEntryIterator")] 28

def k11c0 : Code := { maxStack := 2, maxLocals := 1, code := jdk_2729_method_1_code, exceptionTable := #[], attributes := #[] }
def k11m0 : Method := { name := "<init>", desc := "()V", sig := { parameters := [], returnType := none }, accessFlags := 1, code := some k11c0 }
def k11c1 : Code := { maxStack := 5, maxLocals := 9, code := jdk_2729_method_26_code, exceptionTable := #[], attributes := #[] }
def k11m1 : Method := { name := "merge", desc := "(Ljava/lang/Object;Ljava/lang/Object;Ljava/util/function/BiFunction;)Ljava/lang/Object;", sig := { parameters := [(.object "java/lang/Object"), (.object "java/lang/Object"), (.object "java/util/function/BiFunction")], returnType := some (.object "java/lang/Object") }, accessFlags := 1, code := some k11c1 }
def k11c2 : Code := { maxStack := 5, maxLocals := 6, code := jdk_2729_method_29_code, exceptionTable := #[], attributes := #[] }
def k11m2 : Method := { name := "addEntry", desc := "(Ljava/lang/Object;Ljava/lang/Object;Ljava/util/TreeMap$Entry;Z)V", sig := { parameters := [(.object "java/lang/Object"), (.object "java/lang/Object"), (.object "java/util/TreeMap$Entry"), .boolean], returnType := none }, accessFlags := 2, code := some k11c2 }
def k11c3 : Code := { maxStack := 6, maxLocals := 3, code := jdk_2729_method_30_code, exceptionTable := #[], attributes := #[] }
def k11m3 : Method := { name := "addEntryToEmptyMap", desc := "(Ljava/lang/Object;Ljava/lang/Object;)V", sig := { parameters := [(.object "java/lang/Object"), (.object "java/lang/Object")], returnType := none }, accessFlags := 2, code := some k11c3 }
def k11c4 : Code := { maxStack := 3, maxLocals := 7, code := jdk_2729_method_33_code, exceptionTable := #[], attributes := #[] }
def k11m4 : Method := { name := "mergeValue", desc := "(Ljava/util/TreeMap$Entry;Ljava/lang/Object;Ljava/util/function/BiFunction;)Ljava/lang/Object;", sig := { parameters := [(.object "java/util/TreeMap$Entry"), (.object "java/lang/Object"), (.object "java/util/function/BiFunction")], returnType := some (.object "java/lang/Object") }, accessFlags := 2, code := some k11c4 }
def k11c5 : Code := { maxStack := 4, maxLocals := 2, code := jdk_2729_method_53_code, exceptionTable := #[], attributes := #[] }
def k11m5 : Method := { name := "entrySet", desc := "()Ljava/util/Set;", sig := { parameters := [], returnType := some (.object "java/util/Set") }, accessFlags := 1, code := some k11c5 }
def k11c6 : Code := { maxStack := 3, maxLocals := 3, code := jdk_2729_method_67_code, exceptionTable := #[], attributes := #[] }
def k11m6 : Method := { name := "compare", desc := "(Ljava/lang/Object;Ljava/lang/Object;)I", sig := { parameters := [(.object "java/lang/Object"), (.object "java/lang/Object")], returnType := some .int }, accessFlags := 16, code := some k11c6 }
def k11c7 : Code := { maxStack := 1, maxLocals := 2, code := jdk_2729_method_72_code, exceptionTable := #[], attributes := #[] }
def k11m7 : Method := { name := "getFirstEntry", desc := "()Ljava/util/TreeMap$Entry;", sig := { parameters := [], returnType := some (.object "java/util/TreeMap$Entry") }, accessFlags := 16, code := some k11c7 }
def k11c8 : Code := { maxStack := 2, maxLocals := 3, code := jdk_2729_method_74_code, exceptionTable := #[], attributes := #[] }
def k11m8 : Method := { name := "successor", desc := "(Ljava/util/TreeMap$Entry;)Ljava/util/TreeMap$Entry;", sig := { parameters := [(.object "java/util/TreeMap$Entry")], returnType := some (.object "java/util/TreeMap$Entry") }, accessFlags := 8, code := some k11c8 }
def k11c9 : Code := { maxStack := 1, maxLocals := 1, code := jdk_2729_method_76_code, exceptionTable := #[], attributes := #[] }
def k11m9 : Method := { name := "colorOf", desc := "(Ljava/util/TreeMap$Entry;)Z", sig := { parameters := [(.object "java/util/TreeMap$Entry")], returnType := some .boolean }, accessFlags := 10, code := some k11c9 }
def k11c10 : Code := { maxStack := 1, maxLocals := 1, code := jdk_2729_method_77_code, exceptionTable := #[], attributes := #[] }
def k11m10 : Method := { name := "parentOf", desc := "(Ljava/util/TreeMap$Entry;)Ljava/util/TreeMap$Entry;", sig := { parameters := [(.object "java/util/TreeMap$Entry")], returnType := some (.object "java/util/TreeMap$Entry") }, accessFlags := 10, code := some k11c10 }
def k11c11 : Code := { maxStack := 2, maxLocals := 2, code := jdk_2729_method_78_code, exceptionTable := #[], attributes := #[] }
def k11m11 : Method := { name := "setColor", desc := "(Ljava/util/TreeMap$Entry;Z)V", sig := { parameters := [(.object "java/util/TreeMap$Entry"), .boolean], returnType := none }, accessFlags := 10, code := some k11c11 }
def k11c12 : Code := { maxStack := 1, maxLocals := 1, code := jdk_2729_method_79_code, exceptionTable := #[], attributes := #[] }
def k11m12 : Method := { name := "leftOf", desc := "(Ljava/util/TreeMap$Entry;)Ljava/util/TreeMap$Entry;", sig := { parameters := [(.object "java/util/TreeMap$Entry")], returnType := some (.object "java/util/TreeMap$Entry") }, accessFlags := 10, code := some k11c12 }
def k11c13 : Code := { maxStack := 1, maxLocals := 1, code := jdk_2729_method_80_code, exceptionTable := #[], attributes := #[] }
def k11m13 : Method := { name := "rightOf", desc := "(Ljava/util/TreeMap$Entry;)Ljava/util/TreeMap$Entry;", sig := { parameters := [(.object "java/util/TreeMap$Entry")], returnType := some (.object "java/util/TreeMap$Entry") }, accessFlags := 10, code := some k11c13 }
def k11c14 : Code := { maxStack := 2, maxLocals := 3, code := jdk_2729_method_81_code, exceptionTable := #[], attributes := #[] }
def k11m14 : Method := { name := "rotateLeft", desc := "(Ljava/util/TreeMap$Entry;)V", sig := { parameters := [(.object "java/util/TreeMap$Entry")], returnType := none }, accessFlags := 2, code := some k11c14 }
def k11c15 : Code := { maxStack := 2, maxLocals := 3, code := jdk_2729_method_82_code, exceptionTable := #[], attributes := #[] }
def k11m15 : Method := { name := "rotateRight", desc := "(Ljava/util/TreeMap$Entry;)V", sig := { parameters := [(.object "java/util/TreeMap$Entry")], returnType := none }, accessFlags := 2, code := some k11c15 }
def k11c16 : Code := { maxStack := 2, maxLocals := 3, code := jdk_2729_method_83_code, exceptionTable := #[], attributes := #[] }
def k11m16 : Method := { name := "fixAfterInsertion", desc := "(Ljava/util/TreeMap$Entry;)V", sig := { parameters := [(.object "java/util/TreeMap$Entry")], returnType := none }, accessFlags := 2, code := some k11c16 }
/-- java/util/TreeMap -/
def k11 : Class := { plain "java/util/TreeMap" (some 5) with
  accessFlags := 33
  interfaces := #[8, 9, 10]
  cf := some (fileOf pool11 8 #[.nestMembers #[634, 636, 396, 391, 638, 59, 640, 245, 642, 250, 644, 388, 646, 648, 650, 652, 654, 656, 274, 269, 658, 660, 662, 222, 242, 237]] #[{ accessFlags := 1, nameIndex := 5, descriptorIndex := 6, attributes := #[] }, { accessFlags := 1, nameIndex := 482, descriptorIndex := 150, attributes := #[] }, { accessFlags := 2, nameIndex := 141, descriptorIndex := 142, attributes := #[] }, { accessFlags := 2, nameIndex := 137, descriptorIndex := 138, attributes := #[] }, { accessFlags := 2, nameIndex := 153, descriptorIndex := 146, attributes := #[] }, { accessFlags := 1, nameIndex := 34, descriptorIndex := 35, attributes := #[] }, { accessFlags := 16, nameIndex := 121, descriptorIndex := 122, attributes := #[] }, { accessFlags := 16, nameIndex := 56, descriptorIndex := 57, attributes := #[] }, { accessFlags := 8, nameIndex := 70, descriptorIndex := 71, attributes := #[] }, { accessFlags := 10, nameIndex := 305, descriptorIndex := 306, attributes := #[] }, { accessFlags := 10, nameIndex := 296, descriptorIndex := 71, attributes := #[] }, { accessFlags := 10, nameIndex := 309, descriptorIndex := 310, attributes := #[] }, { accessFlags := 10, nameIndex := 299, descriptorIndex := 71, attributes := #[] }, { accessFlags := 10, nameIndex := 302, descriptorIndex := 71, attributes := #[] }, { accessFlags := 2, nameIndex := 313, descriptorIndex := 173, attributes := #[] }, { accessFlags := 2, nameIndex := 316, descriptorIndex := 173, attributes := #[] }, { accessFlags := 2, nameIndex := 172, descriptorIndex := 173, attributes := #[] }] 33 2 #[231, 403, 405] #[{ accessFlags := 18, nameIndex := 18, descriptorIndex := 19, attributes := #[] }, { accessFlags := 130, nameIndex := 103, descriptorIndex := 104, attributes := #[] }, { accessFlags := 130, nameIndex := 11, descriptorIndex := 12, attributes := #[] }, { accessFlags := 130, nameIndex := 15, descriptorIndex := 12, attributes := #[] }, { accessFlags := 130, nameIndex := 34, descriptorIndex := 190, attributes := #[] }, { accessFlags := 130, nameIndex := 193, descriptorIndex := 194, attributes := #[] }, { accessFlags := 130, nameIndex := 197, descriptorIndex := 198, attributes := #[] }, { accessFlags := 26, nameIndex := 402, descriptorIndex := 63, attributes := #[] }, { accessFlags := 26, nameIndex := 413, descriptorIndex := 293, attributes := #[] }, { accessFlags := 26, nameIndex := 416, descriptorIndex := 293, attributes := #[] }, { accessFlags := 26, nameIndex := 418, descriptorIndex := 419, attributes := #[] }])
  fields := #[{ name := "comparator", type := (.object "java/util/Comparator"), accessFlags := 18, slot := 2, constantValue := 0 }, { name := "root", type := (.object "java/util/TreeMap$Entry"), accessFlags := 130, slot := 3, constantValue := 0 }, { name := "size", type := .int, accessFlags := 130, slot := 4, constantValue := 0 }, { name := "modCount", type := .int, accessFlags := 130, slot := 5, constantValue := 0 }, { name := "entrySet", type := (.object "java/util/TreeMap$EntrySet"), accessFlags := 130, slot := 6, constantValue := 0 }, { name := "navigableKeySet", type := (.object "java/util/TreeMap$KeySet"), accessFlags := 130, slot := 7, constantValue := 0 }, { name := "descendingMap", type := (.object "java/util/NavigableMap"), accessFlags := 130, slot := 8, constantValue := 0 }, { name := "UNBOUNDED", type := (.object "java/lang/Object"), accessFlags := 26, slot := 0, constantValue := 0 }, { name := "RED", type := .boolean, accessFlags := 26, slot := 1, constantValue := 0 }, { name := "BLACK", type := .boolean, accessFlags := 26, slot := 2, constantValue := 0 }, { name := "serialVersionUID", type := .long, accessFlags := 26, slot := 3, constantValue := 0 }]
  methods := #[k11m0, k11m1, k11m2, k11m3, k11m4, k11m5, k11m6, k11m7, k11m8, k11m9, k11m10, k11m11, k11m12, k11m13, k11m14, k11m15, k11m16]
  instanceTypes := #[(.object "java/util/Set"), (.object "java/util/Collection"), (.object "java/util/Comparator"), (.object "java/util/TreeMap$Entry"), .int, .int, (.object "java/util/TreeMap$EntrySet"), (.object "java/util/TreeMap$KeySet"), (.object "java/util/NavigableMap")]
  staticTypes := #[(.object "java/lang/Object"), .boolean, .boolean, .long]
  resolved := Array.replicate 692 none
  statics := none }

def pool12 : Array CpInfo := pool [(1, .methodref 2 3), (0, .class_ 4), (0, .nameAndType 5 6), (0, u "java/lang/Object"), (0, u "<init>"), (0, u "()V"), (1, .class_ 10), (1, u "java/lang/Number"), (2, .class_ 14), (0, u "java/io/Serializable"), (0, u "serialVersionUID"), (0, u "J")] 20

def k12c0 : Code := { maxStack := 1, maxLocals := 1, code := jdk_18_method_1_code, exceptionTable := #[], attributes := #[] }
def k12m0 : Method := { name := "<init>", desc := "()V", sig := { parameters := [], returnType := none }, accessFlags := 1, code := some k12c0 }
/-- java/lang/Number -/
def k12 : Class := { plain "java/lang/Number" (some 0) with
  accessFlags := 1057
  interfaces := #[10]
  cf := some (fileOf pool12 8 #[] #[{ accessFlags := 1, nameIndex := 5, descriptorIndex := 6, attributes := #[] }] 1057 2 #[13] #[{ accessFlags := 26, nameIndex := 15, descriptorIndex := 16, attributes := #[] }])
  fields := #[{ name := "serialVersionUID", type := .long, accessFlags := 26, slot := 0, constantValue := 0 }]
  methods := #[k12m0]
  instanceTypes := #[]
  staticTypes := #[.long]
  resolved := Array.replicate 37 none
  statics := none }

def pool13 : Array CpInfo := pool [(1, .class_ 2), (0, u "java/lang/Comparable"), (0, .class_ 4), (0, u "java/lang/Object"), (0, u "compareTo"), (0, u "(Ljava/lang/Object;)I")] 5

def k13m0 : Method := { name := "compareTo", desc := "(Ljava/lang/Object;)I", sig := { parameters := [(.object "java/lang/Object")], returnType := some .int }, accessFlags := 1025, code := none }
/-- java/lang/Comparable -/
def k13 : Class := { plain "java/lang/Comparable" (some 0) with
  accessFlags := 1537
  interfaces := #[]
  cf := some (fileOf pool13 1 #[] #[{ accessFlags := 1025, nameIndex := 5, descriptorIndex := 6, attributes := #[] }] 1537 3 #[] #[])
  fields := #[]
  methods := #[k13m0]
  instanceTypes := #[]
  staticTypes := #[]
  resolved := Array.replicate 12 none
  statics := none }

def pool14 : Array CpInfo := pool [(1, .class_ 2), (0, u "java/lang/constant/Constable"), (0, .class_ 4), (0, u "java/lang/Object")] 6

/-- java/lang/constant/Constable -/
def k14 : Class := { plain "java/lang/constant/Constable" (some 0) with
  accessFlags := 1537
  interfaces := #[]
  cf := some (fileOf pool14 1 #[] #[] 1537 3 #[] #[])
  fields := #[]
  methods := #[]
  instanceTypes := #[]
  staticTypes := #[]
  resolved := Array.replicate 11 none
  statics := none }

def pool15 : Array CpInfo := pool [(1, .class_ 2), (0, u "java/lang/constant/ConstantDesc"), (0, .class_ 4), (0, u "java/lang/Object")] 32

/-- java/lang/constant/ConstantDesc -/
def k15 : Class := { plain "java/lang/constant/ConstantDesc" (some 0) with
  accessFlags := 1537
  interfaces := #[]
  cf := some (fileOf pool15 1 #[] #[] 1537 3 #[] #[])
  fields := #[]
  methods := #[]
  instanceTypes := #[]
  staticTypes := #[]
  resolved := Array.replicate 37 none
  statics := none }

def pool16 : Array CpInfo := pool [(1, .class_ 2), (0, u "java/lang/Long"), (55, .nameAndType 59 60), (0, u "<init>"), (0, u "()V"), (24, u "valueOf"), (143, u "(J)Ljava/lang/Long;"), (0, .long 18446744073709551488), (1, .long 127), (1, .fieldref 235 236), (0, .class_ 237), (0, .nameAndType 238 239), (0, u "java/lang/Long$LongCache"), (0, u "cache"), (0, u "[Ljava/lang/Long;"), (0, .methodref 1 241), (0, .nameAndType 59 242), (0, u "(J)V"), (27, .methodref 271 58), (0, .class_ 272), (0, u "java/lang/Number"), (0, .fieldref 1 274), (0, .nameAndType 275 276), (0, u "value"), (0, u "J"), (5, u "longValue"), (0, u "()J"), (18, .methodref 1 303), (0, .nameAndType 304 305), (0, u "compare"), (0, u "(JJ)I"), (27, u "(JJ)J"), (9, .methodref 1 344), (0, .nameAndType 345 346), (0, u "compareTo"), (0, u "(Ljava/lang/Long;)I"), (14, u "TYPE"), (0, u "Ljava/lang/Class;"), (0, .class_ 364), (0, u "java/lang/Comparable"), (0, .class_ 366), (0, u "java/lang/constant/Constable"), (0, .class_ 368), (0, u "java/lang/constant/ConstantDesc"), (0, u "MIN_VALUE"), (1, u "MAX_VALUE"), (4, u "SIZE"), (0, u "I"), (1, u "BYTES"), (1, u "serialVersionUID"), (116, u "sum"), (7, u "(Ljava/lang/Object;)I")] 17

def k16c0 : Code := { maxStack := 4, maxLocals := 3, code := jdk_35_method_24_code, exceptionTable := #[], attributes := #[] }
def k16m0 : Method := { name := "valueOf", desc := "(J)Ljava/lang/Long;", sig := { parameters := [.long], returnType := some (.object "java/lang/Long") }, accessFlags := 9, code := some k16c0 }
def k16c1 : Code := { maxStack := 3, maxLocals := 3, code := jdk_35_method_26_code, exceptionTable := #[], attributes := #[] }
def k16m1 : Method := { name := "<init>", desc := "(J)V", sig := { parameters := [.long], returnType := none }, accessFlags := 1, code := some k16c1 }
def k16c2 : Code := { maxStack := 2, maxLocals := 1, code := jdk_35_method_31_code, exceptionTable := #[], attributes := #[] }
def k16m2 : Method := { name := "longValue", desc := "()J", sig := { parameters := [], returnType := some .long }, accessFlags := 1, code := some k16c2 }
def k16c3 : Code := { maxStack := 4, maxLocals := 2, code := jdk_35_method_41_code, exceptionTable := #[], attributes := #[] }
def k16m3 : Method := { name := "compareTo", desc := "(Ljava/lang/Long;)I", sig := { parameters := [(.object "java/lang/Long")], returnType := some .int }, accessFlags := 1, code := some k16c3 }
def k16c4 : Code := { maxStack := 4, maxLocals := 4, code := jdk_35_method_42_code, exceptionTable := #[], attributes := #[] }
def k16m4 : Method := { name := "compare", desc := "(JJ)I", sig := { parameters := [.long, .long], returnType := some .int }, accessFlags := 9, code := some k16c4 }
def k16c5 : Code := { maxStack := 4, maxLocals := 4, code := jdk_35_method_59_code, exceptionTable := #[], attributes := #[] }
def k16m5 : Method := { name := "sum", desc := "(JJ)J", sig := { parameters := [.long, .long], returnType := some .long }, accessFlags := 9, code := some k16c5 }
def k16c6 : Code := { maxStack := 2, maxLocals := 2, code := jdk_35_method_64_code, exceptionTable := #[], attributes := #[] }
def k16m6 : Method := { name := "compareTo", desc := "(Ljava/lang/Object;)I", sig := { parameters := [(.object "java/lang/Object")], returnType := some .int }, accessFlags := 4161, code := some k16c6 }
/-- java/lang/Long -/
def k16 : Class := { plain "java/lang/Long" (some 12) with
  accessFlags := 49
  interfaces := #[13, 14, 15]
  cf := some (fileOf pool16 1 #[.nestMembers #[235]] #[{ accessFlags := 9, nameIndex := 85, descriptorIndex := 229, attributes := #[] }, { accessFlags := 1, nameIndex := 59, descriptorIndex := 242, attributes := #[] }, { accessFlags := 1, nameIndex := 282, descriptorIndex := 283, attributes := #[] }, { accessFlags := 1, nameIndex := 345, descriptorIndex := 346, attributes := #[] }, { accessFlags := 9, nameIndex := 304, descriptorIndex := 305, attributes := #[] }, { accessFlags := 9, nameIndex := 498, descriptorIndex := 333, attributes := #[] }, { accessFlags := 4161, nameIndex := 345, descriptorIndex := 506, attributes := #[] }] 49 271 #[363, 365, 367] #[{ accessFlags := 25, nameIndex := 369, descriptorIndex := 276, attributes := #[] }, { accessFlags := 25, nameIndex := 371, descriptorIndex := 276, attributes := #[] }, { accessFlags := 25, nameIndex := 361, descriptorIndex := 362, attributes := #[] }, { accessFlags := 18, nameIndex := 275, descriptorIndex := 276, attributes := #[] }, { accessFlags := 25, nameIndex := 376, descriptorIndex := 377, attributes := #[] }, { accessFlags := 25, nameIndex := 379, descriptorIndex := 377, attributes := #[] }, { accessFlags := 26, nameIndex := 381, descriptorIndex := 276, attributes := #[] }])
  fields := #[{ name := "MIN_VALUE", type := .long, accessFlags := 25, slot := 0, constantValue := 0 }, { name := "MAX_VALUE", type := .long, accessFlags := 25, slot := 1, constantValue := 0 }, { name := "TYPE", type := (.object "java/lang/Class"), accessFlags := 25, slot := 2, constantValue := 0 }, { name := "value", type := .long, accessFlags := 18, slot := 0, constantValue := 0 }, { name := "SIZE", type := .int, accessFlags := 25, slot := 3, constantValue := 0 }, { name := "BYTES", type := .int, accessFlags := 25, slot := 4, constantValue := 0 }, { name := "serialVersionUID", type := .long, accessFlags := 26, slot := 5, constantValue := 0 }]
  methods := #[k16m0, k16m1, k16m2, k16m3, k16m4, k16m5, k16m6]
  instanceTypes := #[.long]
  staticTypes := #[.long, .long, (.object "java/lang/Class"), .int, .int, .long]
  resolved := Array.replicate 524 none
  statics := none }

def pool17 : Array CpInfo := pool [(2, .class_ 4), (1, u "java/lang/Object"), (0, u "<init>"), (0, u "()V"), (0, .class_ 8), (0, u "java/lang/Long"), (7, .class_ 18), (1, u "java/lang/Long$LongCache"), (0, u "$assertionsDisabled"), (0, u "Z"), (8, u "archivedCache"), (0, u "[Ljava/lang/Long;"), (7, u "cache")] 24

def k17m0 : Method := { name := "<init>", desc := "()V", sig := { parameters := [], returnType := none }, accessFlags := 2, code := none }
/-- java/lang/Long$LongCache -/
def k17 : Class := { plain "java/lang/Long$LongCache" (some 0) with
  accessFlags := 48
  interfaces := #[]
  cf := some (fileOf pool17 16 #[.nestHost 7] #[{ accessFlags := 2, nameIndex := 5, descriptorIndex := 6, attributes := #[] }] 48 2 #[] #[{ accessFlags := 24, nameIndex := 38, descriptorIndex := 30, attributes := #[] }, { accessFlags := 8, nameIndex := 29, descriptorIndex := 30, attributes := #[] }, { accessFlags := 4120, nameIndex := 19, descriptorIndex := 20, attributes := #[] }])
  fields := #[{ name := "cache", type := (.array (.object "java/lang/Long")), accessFlags := 24, slot := 0, constantValue := 0 }, { name := "archivedCache", type := (.array (.object "java/lang/Long")), accessFlags := 8, slot := 1, constantValue := 0 }, { name := "$assertionsDisabled", type := .boolean, accessFlags := 4120, slot := 2, constantValue := 0 }]
  methods := #[k17m0]
  instanceTypes := #[]
  staticTypes := #[(.array (.object "java/lang/Long")), (.array (.object "java/lang/Long")), .boolean]
  resolved := Array.replicate 63 none
  statics := some 0 }

def pool18 : Array CpInfo := pool [(9, u "apply"), (2, .class_ 14), (1, u "java/util/function/BiFunction"), (0, u "(Ljava/lang/Object;Ljava/lang/Object;)Ljava/lang/Object;"), (4, .class_ 21), (0, u "java/lang/Object")] 43

def k18m0 : Method := { name := "apply", desc := "(Ljava/lang/Object;Ljava/lang/Object;)Ljava/lang/Object;", sig := { parameters := [(.object "java/lang/Object"), (.object "java/lang/Object")], returnType := some (.object "java/lang/Object") }, accessFlags := 1025, code := none }
/-- java/util/function/BiFunction -/
def k18 : Class := { plain "java/util/function/BiFunction" (some 0) with
  accessFlags := 1537
  interfaces := #[]
  cf := some (fileOf pool18 12 #[] #[{ accessFlags := 1025, nameIndex := 9, descriptorIndex := 15, attributes := #[] }] 1537 20 #[] #[])
  fields := #[]
  methods := #[k18m0]
  instanceTypes := #[]
  staticTypes := #[]
  resolved := Array.replicate 65 none
  statics := none }

def pool19 : Array CpInfo := pool [(2, .class_ 4), (1, u "java/lang/Object"), (0, u "<init>"), (0, u "()V"), (35, .class_ 44), (1, u "java/util/Objects"), (0, u "requireNonNull"), (0, u "(Ljava/lang/Object;)Ljava/lang/Object;")] 137

def k19m0 : Method := { name := "<init>", desc := "()V", sig := { parameters := [], returnType := none }, accessFlags := 2, code := none }
def k19c1 : Code := { maxStack := 2, maxLocals := 1, code := jdk_31_method_10_code, exceptionTable := #[], attributes := #[] }
def k19m1 : Method := { name := "requireNonNull", desc := "(Ljava/lang/Object;)Ljava/lang/Object;", sig := { parameters := [(.object "java/lang/Object")], returnType := some (.object "java/lang/Object") }, accessFlags := 9, code := some k19c1 }
/-- java/util/Objects -/
def k19 : Class := { plain "java/util/Objects" (some 0) with
  accessFlags := 49
  interfaces := #[]
  cf := some (fileOf pool19 42 #[] #[{ accessFlags := 2, nameIndex := 5, descriptorIndex := 6, attributes := #[] }, { accessFlags := 9, nameIndex := 45, descriptorIndex := 46, attributes := #[] }] 49 2 #[] #[])
  fields := #[]
  methods := #[k19m0, k19m1]
  instanceTypes := #[]
  staticTypes := #[]
  resolved := Array.replicate 184 none
  statics := none }

def pool20 : Array CpInfo := pool [(23, .class_ 25), (1, u "java/util/Map$Entry"), (0, u "getKey"), (0, u "()Ljava/lang/Object;"), (2, u "getValue"), (1, .class_ 34), (1, u "java/util/Map"), (34, .class_ 70), (0, u "java/lang/Object")] 107

def k20m0 : Method := { name := "getKey", desc := "()Ljava/lang/Object;", sig := { parameters := [], returnType := some (.object "java/lang/Object") }, accessFlags := 1025, code := none }
def k20m1 : Method := { name := "getValue", desc := "()Ljava/lang/Object;", sig := { parameters := [], returnType := some (.object "java/lang/Object") }, accessFlags := 1025, code := none }
/-- java/util/Map$Entry -/
def k20 : Class := { plain "java/util/Map$Entry" (some 0) with
  accessFlags := 1537
  interfaces := #[]
  cf := some (fileOf pool20 23 #[.nestHost 32] #[{ accessFlags := 1025, nameIndex := 26, descriptorIndex := 27, attributes := #[] }, { accessFlags := 1025, nameIndex := 30, descriptorIndex := 27, attributes := #[] }] 1537 69 #[] #[])
  fields := #[]
  methods := #[k20m0, k20m1]
  instanceTypes := #[]
  staticTypes := #[]
  resolved := Array.replicate 178 none
  statics := none }

def pool21 : Array CpInfo := pool [(1, .class_ 2), (0, u "java/util/TreeMap"), (0, .methodref 4 5), (0, .class_ 6), (0, .nameAndType 7 8), (0, u "java/lang/Object"), (0, u "<init>"), (0, u "()V"), (0, .fieldref 10 11), (0, .class_ 12), (0, .nameAndType 13 14), (0, u "java/util/TreeMap$Entry"), (0, u "color"), (0, u "Z"), (0, .fieldref 10 16), (0, .nameAndType 17 18), (0, u "key"), (0, u "Ljava/lang/Object;"), (0, .fieldref 10 20), (0, .nameAndType 21 18), (0, u "value"), (0, .fieldref 10 23), (0, .nameAndType 24 25), (0, u "parent"), (0, u "Ljava/util/TreeMap$Entry;"), (0, .class_ 27), (0, u "java/util/Map$Entry"), (2, u "getKey"), (0, u "()Ljava/lang/Object;"), (6, u "getValue"), (23, u "left"), (1, u "right"), (0, u "(Ljava/lang/Object;Ljava/lang/Object;Ljava/util/TreeMap$Entry;)V")] 30

def k21c0 : Code := { maxStack := 2, maxLocals := 4, code := jdk_2736_method_1_code, exceptionTable := #[], attributes := #[] }
def k21m0 : Method := { name := "<init>", desc := "(Ljava/lang/Object;Ljava/lang/Object;Ljava/util/TreeMap$Entry;)V", sig := { parameters := [(.object "java/lang/Object"), (.object "java/lang/Object"), (.object "java/util/TreeMap$Entry")], returnType := none }, accessFlags := 0, code := some k21c0 }
def k21c1 : Code := { maxStack := 1, maxLocals := 1, code := jdk_2736_method_2_code, exceptionTable := #[], attributes := #[] }
def k21m1 : Method := { name := "getKey", desc := "()Ljava/lang/Object;", sig := { parameters := [], returnType := some (.object "java/lang/Object") }, accessFlags := 1, code := some k21c1 }
def k21c2 : Code := { maxStack := 1, maxLocals := 1, code := jdk_2736_method_3_code, exceptionTable := #[], attributes := #[] }
def k21m2 : Method := { name := "getValue", desc := "()Ljava/lang/Object;", sig := { parameters := [], returnType := some (.object "java/lang/Object") }, accessFlags := 1, code := some k21c2 }
/-- java/util/TreeMap$Entry -/
def k21 : Class := { plain "java/util/TreeMap$Entry" (some 0) with
  accessFlags := 48
  interfaces := #[20]
  cf := some (fileOf pool21 10 #[.nestHost 1] #[{ accessFlags := 0, nameIndex := 7, descriptorIndex := 65, attributes := #[] }, { accessFlags := 1, nameIndex := 30, descriptorIndex := 31, attributes := #[] }, { accessFlags := 1, nameIndex := 38, descriptorIndex := 31, attributes := #[] }] 48 4 #[26] #[{ accessFlags := 0, nameIndex := 17, descriptorIndex := 18, attributes := #[] }, { accessFlags := 0, nameIndex := 21, descriptorIndex := 18, attributes := #[] }, { accessFlags := 0, nameIndex := 62, descriptorIndex := 25, attributes := #[] }, { accessFlags := 0, nameIndex := 64, descriptorIndex := 25, attributes := #[] }, { accessFlags := 0, nameIndex := 24, descriptorIndex := 25, attributes := #[] }, { accessFlags := 0, nameIndex := 13, descriptorIndex := 14, attributes := #[] }])
  fields := #[{ name := "key", type := (.object "java/lang/Object"), accessFlags := 0, slot := 0, constantValue := 0 }, { name := "value", type := (.object "java/lang/Object"), accessFlags := 0, slot := 1, constantValue := 0 }, { name := "left", type := (.object "java/util/TreeMap$Entry"), accessFlags := 0, slot := 2, constantValue := 0 }, { name := "right", type := (.object "java/util/TreeMap$Entry"), accessFlags := 0, slot := 3, constantValue := 0 }, { name := "parent", type := (.object "java/util/TreeMap$Entry"), accessFlags := 0, slot := 4, constantValue := 0 }, { name := "color", type := .boolean, accessFlags := 0, slot := 5, constantValue := 0 }]
  methods := #[k21m0, k21m1, k21m2]
  instanceTypes := #[(.object "java/lang/Object"), (.object "java/lang/Object"), (.object "java/util/TreeMap$Entry"), (.object "java/util/TreeMap$Entry"), (.object "java/util/TreeMap$Entry"), .boolean]
  staticTypes := #[]
  resolved := Array.replicate 96 none
  statics := none }

def pool22 : Array CpInfo := pool [(8, .class_ 10), (1, u "java/lang/Iterable"), (24, .class_ 36), (0, u "java/lang/Object")] 25

/-- java/lang/Iterable -/
def k22 : Class := { plain "java/lang/Iterable" (some 0) with
  accessFlags := 1537
  interfaces := #[]
  cf := some (fileOf pool22 8 #[] #[] 1537 35 #[] #[])
  fields := #[]
  methods := #[]
  instanceTypes := #[]
  staticTypes := #[]
  resolved := Array.replicate 62 none
  statics := none }

def pool23 : Array CpInfo := pool [(10, .class_ 12), (1, u "java/util/Collection"), (47, .class_ 61), (0, u "java/lang/Object"), (0, .class_ 63), (0, u "java/lang/Iterable")] 51

/-- java/util/Collection -/
def k23 : Class := { plain "java/util/Collection" (some 0) with
  accessFlags := 1537
  interfaces := #[22]
  cf := some (fileOf pool23 10 #[] #[] 1537 60 #[62] #[])
  fields := #[]
  methods := #[]
  instanceTypes := #[]
  staticTypes := #[]
  resolved := Array.replicate 115 none
  statics := none }

def pool24 : Array CpInfo := pool [(1, .methodref 2 3), (0, .class_ 4), (0, .nameAndType 5 6), (0, u "java/lang/Object"), (0, u "<init>"), (0, u "()V"), (1, .class_ 10), (1, u "java/util/AbstractCollection"), (66, .class_ 78), (0, u "java/util/Collection")] 81

def k24c0 : Code := { maxStack := 1, maxLocals := 1, code := jdk_22_method_1_code, exceptionTable := #[], attributes := #[] }
def k24m0 : Method := { name := "<init>", desc := "()V", sig := { parameters := [], returnType := none }, accessFlags := 4, code := some k24c0 }
/-- java/util/AbstractCollection -/
def k24 : Class := { plain "java/util/AbstractCollection" (some 0) with
  accessFlags := 1057
  interfaces := #[23]
  cf := some (fileOf pool24 8 #[] #[{ accessFlags := 4, nameIndex := 5, descriptorIndex := 6, attributes := #[] }] 1057 2 #[77] #[])
  fields := #[]
  methods := #[k24m0]
  instanceTypes := #[]
  staticTypes := #[]
  resolved := Array.replicate 160 none
  statics := none }

def pool25 : Array CpInfo := pool [(26, .class_ 27), (0, u "java/lang/Object"), (5, .class_ 34), (0, u "java/util/Set"), (1, .class_ 38), (1, u "java/util/Collection"), (22, u "iterator"), (0, u "()Ljava/util/Iterator;")] 81

def k25m0 : Method := { name := "iterator", desc := "()Ljava/util/Iterator;", sig := { parameters := [], returnType := some (.object "java/util/Iterator") }, accessFlags := 1025, code := none }
/-- java/util/Set -/
def k25 : Class := { plain "java/util/Set" (some 0) with
  accessFlags := 1537
  interfaces := #[23]
  cf := some (fileOf pool25 33 #[] #[{ accessFlags := 1025, nameIndex := 61, descriptorIndex := 62, attributes := #[] }] 1537 26 #[36] #[])
  fields := #[]
  methods := #[k25m0]
  instanceTypes := #[]
  staticTypes := #[]
  resolved := Array.replicate 144 none
  statics := none }

def pool26 : Array CpInfo := pool [(1, .methodref 2 3), (0, .class_ 4), (0, .nameAndType 5 6), (0, u "java/util/AbstractCollection"), (0, u "<init>"), (0, u "()V"), (0, .class_ 8), (0, u "java/util/Set"), (7, .class_ 17), (0, u "java/util/AbstractSet")] 78

def k26c0 : Code := { maxStack := 1, maxLocals := 1, code := jdk_91_method_1_code, exceptionTable := #[], attributes := #[] }
def k26m0 : Method := { name := "<init>", desc := "()V", sig := { parameters := [], returnType := none }, accessFlags := 4, code := some k26c0 }
/-- java/util/AbstractSet -/
def k26 : Class := { plain "java/util/AbstractSet" (some 24) with
  accessFlags := 1057
  interfaces := #[25]
  cf := some (fileOf pool26 16 #[] #[{ accessFlags := 4, nameIndex := 5, descriptorIndex := 6, attributes := #[] }] 1057 2 #[7] #[])
  fields := #[]
  methods := #[k26m0]
  instanceTypes := #[]
  staticTypes := #[]
  resolved := Array.replicate 96 none
  statics := none }

def pool27 : Array CpInfo := pool [(1, .fieldref 2 3), (0, .class_ 4), (0, .nameAndType 5 6), (0, u "java/util/TreeMap$EntrySet"), (0, u "this$0"), (0, u "Ljava/util/TreeMap;"), (0, .methodref 8 9), (0, .class_ 10), (0, .nameAndType 11 12), (0, u "java/util/AbstractSet"), (0, u "<init>"), (0, u "()V"), (0, .class_ 14), (0, u "java/util/TreeMap$EntryIterator"), (0, .methodref 16 17), (0, .class_ 18), (0, .nameAndType 19 20), (0, u "java/util/TreeMap"), (0, u "getFirstEntry"), (0, u "()Ljava/util/TreeMap$Entry;"), (0, .methodref 13 22), (0, .nameAndType 11 23), (0, u "(Ljava/util/TreeMap;Ljava/util/TreeMap$Entry;)V"), (36, u "(Ljava/util/TreeMap;)V"), (8, u "iterator"), (0, u "()Ljava/util/Iterator;")] 31

def k27c0 : Code := { maxStack := 2, maxLocals := 2, code := jdk_2738_method_1_code, exceptionTable := #[], attributes := #[] }
def k27m0 : Method := { name := "<init>", desc := "(Ljava/util/TreeMap;)V", sig := { parameters := [(.object "java/util/TreeMap")], returnType := none }, accessFlags := 0, code := some k27c0 }
def k27c1 : Code := { maxStack := 4, maxLocals := 1, code := jdk_2738_method_2_code, exceptionTable := #[], attributes := #[] }
def k27m1 : Method := { name := "iterator", desc := "()Ljava/util/Iterator;", sig := { parameters := [], returnType := some (.object "java/util/Iterator") }, accessFlags := 1, code := some k27c1 }
/-- java/util/TreeMap$EntrySet -/
def k27 : Class := { plain "java/util/TreeMap$EntrySet" (some 26) with
  accessFlags := 32
  interfaces := #[]
  cf := some (fileOf pool27 2 #[.nestHost 16] #[{ accessFlags := 0, nameIndex := 11, descriptorIndex := 60, attributes := #[] }, { accessFlags := 1, nameIndex := 69, descriptorIndex := 70, attributes := #[] }] 32 8 #[] #[{ accessFlags := 4112, nameIndex := 5, descriptorIndex := 6, attributes := #[] }])
  fields := #[{ name := "this$0", type := (.object "java/util/TreeMap"), accessFlags := 4112, slot := 0, constantValue := 0 }]
  methods := #[k27m0, k27m1]
  instanceTypes := #[(.object "java/util/TreeMap")]
  staticTypes := #[]
  resolved := Array.replicate 102 none
  statics := none }

def pool28 : Array CpInfo := pool [(16, .class_ 18), (1, u "java/util/Iterator"), (0, u "hasNext"), (0, u "()Z"), (2, u "next"), (0, u "()Ljava/lang/Object;"), (6, .class_ 32), (0, u "java/lang/Object")] 20

def k28m0 : Method := { name := "hasNext", desc := "()Z", sig := { parameters := [], returnType := some .boolean }, accessFlags := 1025, code := none }
def k28m1 : Method := { name := "next", desc := "()Ljava/lang/Object;", sig := { parameters := [], returnType := some (.object "java/lang/Object") }, accessFlags := 1025, code := none }
/-- java/util/Iterator -/
def k28 : Class := { plain "java/util/Iterator" (some 0) with
  accessFlags := 1537
  interfaces := #[]
  cf := some (fileOf pool28 16 #[] #[{ accessFlags := 1025, nameIndex := 19, descriptorIndex := 20, attributes := #[] }, { accessFlags := 1025, nameIndex := 23, descriptorIndex := 24, attributes := #[] }] 1537 31 #[] #[])
  fields := #[]
  methods := #[k28m0, k28m1]
  instanceTypes := #[]
  staticTypes := #[]
  resolved := Array.replicate 53 none
  statics := none }

def pool29 : Array CpInfo := pool [(1, .fieldref 2 3), (0, .class_ 4), (0, .nameAndType 5 6), (0, u "java/util/TreeMap$PrivateEntryIterator"), (0, u "this$0"), (0, u "Ljava/util/TreeMap;"), (0, .methodref 8 9), (0, .class_ 10), (0, .nameAndType 11 12), (0, u "java/lang/Object"), (0, u "<init>"), (0, u "()V"), (0, .fieldref 14 15), (0, .class_ 16), (0, .nameAndType 17 18), (0, u "java/util/TreeMap"), (0, u "modCount"), (0, u "I"), (0, .fieldref 2 20), (0, .nameAndType 21 18), (0, u "expectedModCount"), (0, .fieldref 2 23), (0, .nameAndType 24 25), (0, u "lastReturned"), (0, u "Ljava/util/TreeMap$Entry;"), (0, .fieldref 2 27), (0, .nameAndType 28 25), (0, u "next"), (6, .methodref 14 36), (0, .nameAndType 37 38), (0, u "successor"), (0, u "(Ljava/util/TreeMap$Entry;)Ljava/util/TreeMap$Entry;"), (18, .class_ 58), (0, u "java/util/Iterator"), (2, u "(Ljava/util/TreeMap;Ljava/util/TreeMap$Entry;)V"), (10, u "hasNext"), (0, u "()Z"), (1, u "nextEntry"), (0, u "()Ljava/util/TreeMap$Entry;")] 11

def k29c0 : Code := { maxStack := 2, maxLocals := 3, code := jdk_2750_method_1_code, exceptionTable := #[], attributes := #[] }
def k29m0 : Method := { name := "<init>", desc := "(Ljava/util/TreeMap;Ljava/util/TreeMap$Entry;)V", sig := { parameters := [(.object "java/util/TreeMap"), (.object "java/util/TreeMap$Entry")], returnType := none }, accessFlags := 0, code := some k29c0 }
def k29c1 : Code := { maxStack := 1, maxLocals := 1, code := jdk_2750_method_2_code, exceptionTable := #[], attributes := #[] }
def k29m1 : Method := { name := "hasNext", desc := "()Z", sig := { parameters := [], returnType := some .boolean }, accessFlags := 17, code := some k29c1 }
def k29c2 : Code := { maxStack := 2, maxLocals := 2, code := jdk_2750_method_3_code, exceptionTable := #[], attributes := #[] }
def k29m2 : Method := { name := "nextEntry", desc := "()Ljava/util/TreeMap$Entry;", sig := { parameters := [], returnType := some (.object "java/util/TreeMap$Entry") }, accessFlags := 16, code := some k29c2 }
/-- java/util/TreeMap$PrivateEntryIterator -/
def k29 : Class := { plain "java/util/TreeMap$PrivateEntryIterator" (some 0) with
  accessFlags := 1056
  interfaces := #[28]
  cf := some (fileOf pool29 2 #[.nestHost 14] #[{ accessFlags := 0, nameIndex := 11, descriptorIndex := 61, attributes := #[] }, { accessFlags := 17, nameIndex := 72, descriptorIndex := 73, attributes := #[] }, { accessFlags := 16, nameIndex := 75, descriptorIndex := 76, attributes := #[] }] 1056 8 #[57] #[{ accessFlags := 0, nameIndex := 28, descriptorIndex := 25, attributes := #[] }, { accessFlags := 0, nameIndex := 24, descriptorIndex := 25, attributes := #[] }, { accessFlags := 0, nameIndex := 21, descriptorIndex := 18, attributes := #[] }, { accessFlags := 4112, nameIndex := 5, descriptorIndex := 6, attributes := #[] }])
  fields := #[{ name := "next", type := (.object "java/util/TreeMap$Entry"), accessFlags := 0, slot := 0, constantValue := 0 }, { name := "lastReturned", type := (.object "java/util/TreeMap$Entry"), accessFlags := 0, slot := 1, constantValue := 0 }, { name := "expectedModCount", type := .int, accessFlags := 0, slot := 2, constantValue := 0 }, { name := "this$0", type := (.object "java/util/TreeMap"), accessFlags := 4112, slot := 3, constantValue := 0 }]
  methods := #[k29m0, k29m1, k29m2]
  instanceTypes := #[(.object "java/util/TreeMap$Entry"), (.object "java/util/TreeMap$Entry"), .int, (.object "java/util/TreeMap")]
  staticTypes := #[]
  resolved := (Array.replicate 88 none).setIfInBounds 13 (some (.field 11 3))
  statics := none }

def pool30 : Array CpInfo := pool [(1, .methodref 2 3), (0, .class_ 4), (0, .nameAndType 5 6), (0, u "java/util/TreeMap$PrivateEntryIterator"), (0, u "<init>"), (0, u "(Ljava/util/TreeMap;Ljava/util/TreeMap$Entry;)V"), (0, .methodref 8 9), (0, .class_ 10), (0, .nameAndType 11 12), (0, u "java/util/TreeMap$EntryIterator"), (0, u "nextEntry"), (0, u "()Ljava/util/TreeMap$Entry;"), (0, .methodref 8 14), (0, .nameAndType 15 16), (0, u "next"), (0, u "()Ljava/util/Map$Entry;"), (16, u "()Ljava/lang/Object;"), (4, .class_ 39), (0, u "java/util/TreeMap")] 10

def k30c0 : Code := { maxStack := 3, maxLocals := 3, code := jdk_2737_method_1_code, exceptionTable := #[], attributes := #[] }
def k30m0 : Method := { name := "<init>", desc := "(Ljava/util/TreeMap;Ljava/util/TreeMap$Entry;)V", sig := { parameters := [(.object "java/util/TreeMap"), (.object "java/util/TreeMap$Entry")], returnType := none }, accessFlags := 0, code := some k30c0 }
def k30c1 : Code := { maxStack := 1, maxLocals := 1, code := jdk_2737_method_2_code, exceptionTable := #[], attributes := #[] }
def k30m1 : Method := { name := "next", desc := "()Ljava/util/Map$Entry;", sig := { parameters := [], returnType := some (.object "java/util/Map$Entry") }, accessFlags := 1, code := some k30c1 }
def k30c2 : Code := { maxStack := 1, maxLocals := 1, code := jdk_2737_method_3_code, exceptionTable := #[], attributes := #[] }
def k30m2 : Method := { name := "next", desc := "()Ljava/lang/Object;", sig := { parameters := [], returnType := some (.object "java/lang/Object") }, accessFlags := 4161, code := some k30c2 }
/-- java/util/TreeMap$EntryIterator -/
def k30 : Class := { plain "java/util/TreeMap$EntryIterator" (some 29) with
  accessFlags := 48
  interfaces := #[]
  cf := some (fileOf pool30 8 #[.nestHost 38] #[{ accessFlags := 0, nameIndex := 5, descriptorIndex := 6, attributes := #[] }, { accessFlags := 1, nameIndex := 15, descriptorIndex := 16, attributes := #[] }, { accessFlags := 4161, nameIndex := 15, descriptorIndex := 33, attributes := #[] }] 48 2 #[] #[])
  fields := #[]
  methods := #[k30m0, k30m1, k30m2]
  instanceTypes := #[(.object "java/util/TreeMap$Entry"), (.object "java/util/TreeMap$Entry"), .int, (.object "java/util/TreeMap")]
  staticTypes := #[]
  resolved := Array.replicate 50 none
  statics := none }

/-- the primitive byte -/
def k31 : Class := { plain "byte" none with kind := .primitive 'B', accessFlags := 0x411 }
/-- [B -/
def k32 : Class := { plain "[B" (some 0) with kind := .array 31 .byte, interfaces := #[9, 10], accessFlags := 1041 }

/-- the primitive int -/
def k33 : Class := { plain "int" none with kind := .primitive 'I', accessFlags := 0x411 }
/-- [I -/
def k34 : Class := { plain "[I" (some 0) with kind := .array 33 .int, interfaces := #[9, 10], accessFlags := 1041 }

/-- [Ljava/lang/Long; -/
def k35 : Class := { plain "[Ljava/lang/Long;" (some 0) with kind := .array 16 (.object "java/lang/Long"), interfaces := #[9, 10], accessFlags := 1041 }

def classes0 : Array Class := #[k0, k1, k2, k3, k4, k5, k6, k7, k8, k9, k10, k11, k12, k13, k14, k15, k16, k17, k18, k19, k20, k21, k22, k23, k24, k25, k26, k27, k28, k29, k30, k31, k32, k33, k34, k35]
/-- the class that the rule has made for the site at 20 of com/example/bounded_lock/boundedlock/cli/RoundTimes.add -/
def k36 : Class := Jvm.LamKit.madeRec { classes := classes0 } "com/example/bounded_lock/boundedlock/cli/RoundTimes" (Jvm.Lambda.Shape.mk "java/util/function/BiFunction" "apply" (Jvm.ClassFile.MethodDescriptor.mk ([(Jvm.ClassFile.FieldType.object "java/lang/Object"), (Jvm.ClassFile.FieldType.object "java/lang/Object")] : List Jvm.ClassFile.FieldType) (Option.some (Jvm.ClassFile.FieldType.object "java/lang/Object"))) ([] : List Jvm.ClassFile.FieldType) (6 : Nat) "java/lang/Long" "sum" (Jvm.ClassFile.MethodDescriptor.mk ([Jvm.ClassFile.FieldType.long, Jvm.ClassFile.FieldType.long] : List Jvm.ClassFile.FieldType) (Option.some Jvm.ClassFile.FieldType.long)) false (Jvm.ClassFile.MethodDescriptor.mk ([(Jvm.ClassFile.FieldType.object "java/lang/Long"), (Jvm.ClassFile.FieldType.object "java/lang/Long")] : List Jvm.ClassFile.FieldType) (Option.some (Jvm.ClassFile.FieldType.object "java/lang/Long")))) 36

def heap : Heap := #[{ cls := 17, slots := #[.ref 2, .null, .int 0], vm := .statics 17 },
  { cls := 36, slots := #[], vm := .none },
  { cls := 35, slots := #[.ref 3, .ref 4, .ref 5, .ref 6, .ref 7, .ref 8, .ref 9, .ref 10, .ref 11, .ref 12, .ref 13, .ref 14, .ref 15, .ref 16, .ref 17, .ref 18, .ref 19, .ref 20, .ref 21, .ref 22, .ref 23, .ref 24, .ref 25, .ref 26, .ref 27, .ref 28, .ref 29, .ref 30, .ref 31, .ref 32, .ref 33, .ref 34, .ref 35, .ref 36, .ref 37, .ref 38, .ref 39, .ref 40, .ref 41, .ref 42, .ref 43, .ref 44, .ref 45, .ref 46, .ref 47, .ref 48, .ref 49, .ref 50, .ref 51, .ref 52, .ref 53, .ref 54, .ref 55, .ref 56, .ref 57, .ref 58, .ref 59, .ref 60, .ref 61, .ref 62, .ref 63, .ref 64, .ref 65, .ref 66, .ref 67, .ref 68, .ref 69, .ref 70, .ref 71, .ref 72, .ref 73, .ref 74, .ref 75, .ref 76, .ref 77, .ref 78, .ref 79, .ref 80, .ref 81, .ref 82, .ref 83, .ref 84, .ref 85, .ref 86, .ref 87, .ref 88, .ref 89, .ref 90, .ref 91, .ref 92, .ref 93, .ref 94, .ref 95, .ref 96, .ref 97, .ref 98, .ref 99, .ref 100, .ref 101, .ref 102, .ref 103, .ref 104, .ref 105, .ref 106, .ref 107, .ref 108, .ref 109, .ref 110, .ref 111, .ref 112, .ref 113, .ref 114, .ref 115, .ref 116, .ref 117, .ref 118, .ref 119, .ref 120, .ref 121, .ref 122, .ref 123, .ref 124, .ref 125, .ref 126, .ref 127, .ref 128, .ref 129, .ref 130, .ref 131, .ref 132, .ref 133, .ref 134, .ref 135, .ref 136, .ref 137, .ref 138, .ref 139, .ref 140, .ref 141, .ref 142, .ref 143, .ref 144, .ref 145, .ref 146, .ref 147, .ref 148, .ref 149, .ref 150, .ref 151, .ref 152, .ref 153, .ref 154, .ref 155, .ref 156, .ref 157, .ref 158, .ref 159, .ref 160, .ref 161, .ref 162, .ref 163, .ref 164, .ref 165, .ref 166, .ref 167, .ref 168, .ref 169, .ref 170, .ref 171, .ref 172, .ref 173, .ref 174, .ref 175, .ref 176, .ref 177, .ref 178, .ref 179, .ref 180, .ref 181, .ref 182, .ref 183, .ref 184, .ref 185, .ref 186, .ref 187, .ref 188, .ref 189, .ref 190, .ref 191, .ref 192, .ref 193, .ref 194, .ref 195, .ref 196, .ref 197, .ref 198, .ref 199, .ref 200, .ref 201, .ref 202, .ref 203, .ref 204, .ref 205, .ref 206, .ref 207, .ref 208, .ref 209, .ref 210, .ref 211, .ref 212, .ref 213, .ref 214, .ref 215, .ref 216, .ref 217, .ref 218, .ref 219, .ref 220, .ref 221, .ref 222, .ref 223, .ref 224, .ref 225, .ref 226, .ref 227, .ref 228, .ref 229, .ref 230, .ref 231, .ref 232, .ref 233, .ref 234, .ref 235, .ref 236, .ref 237, .ref 238, .ref 239, .ref 240, .ref 241, .ref 242, .ref 243, .ref 244, .ref 245, .ref 246, .ref 247, .ref 248, .ref 249, .ref 250, .ref 251, .ref 252, .ref 253, .ref 254, .ref 255, .ref 256, .ref 257, .ref 258], vm := .none },
  { cls := 16, slots := #[.long (-128)], vm := .none },
  { cls := 16, slots := #[.long (-127)], vm := .none },
  { cls := 16, slots := #[.long (-126)], vm := .none },
  { cls := 16, slots := #[.long (-125)], vm := .none },
  { cls := 16, slots := #[.long (-124)], vm := .none },
  { cls := 16, slots := #[.long (-123)], vm := .none },
  { cls := 16, slots := #[.long (-122)], vm := .none },
  { cls := 16, slots := #[.long (-121)], vm := .none },
  { cls := 16, slots := #[.long (-120)], vm := .none },
  { cls := 16, slots := #[.long (-119)], vm := .none },
  { cls := 16, slots := #[.long (-118)], vm := .none },
  { cls := 16, slots := #[.long (-117)], vm := .none },
  { cls := 16, slots := #[.long (-116)], vm := .none },
  { cls := 16, slots := #[.long (-115)], vm := .none },
  { cls := 16, slots := #[.long (-114)], vm := .none },
  { cls := 16, slots := #[.long (-113)], vm := .none },
  { cls := 16, slots := #[.long (-112)], vm := .none },
  { cls := 16, slots := #[.long (-111)], vm := .none },
  { cls := 16, slots := #[.long (-110)], vm := .none },
  { cls := 16, slots := #[.long (-109)], vm := .none },
  { cls := 16, slots := #[.long (-108)], vm := .none },
  { cls := 16, slots := #[.long (-107)], vm := .none },
  { cls := 16, slots := #[.long (-106)], vm := .none },
  { cls := 16, slots := #[.long (-105)], vm := .none },
  { cls := 16, slots := #[.long (-104)], vm := .none },
  { cls := 16, slots := #[.long (-103)], vm := .none },
  { cls := 16, slots := #[.long (-102)], vm := .none },
  { cls := 16, slots := #[.long (-101)], vm := .none },
  { cls := 16, slots := #[.long (-100)], vm := .none },
  { cls := 16, slots := #[.long (-99)], vm := .none },
  { cls := 16, slots := #[.long (-98)], vm := .none },
  { cls := 16, slots := #[.long (-97)], vm := .none },
  { cls := 16, slots := #[.long (-96)], vm := .none },
  { cls := 16, slots := #[.long (-95)], vm := .none },
  { cls := 16, slots := #[.long (-94)], vm := .none },
  { cls := 16, slots := #[.long (-93)], vm := .none },
  { cls := 16, slots := #[.long (-92)], vm := .none },
  { cls := 16, slots := #[.long (-91)], vm := .none },
  { cls := 16, slots := #[.long (-90)], vm := .none },
  { cls := 16, slots := #[.long (-89)], vm := .none },
  { cls := 16, slots := #[.long (-88)], vm := .none },
  { cls := 16, slots := #[.long (-87)], vm := .none },
  { cls := 16, slots := #[.long (-86)], vm := .none },
  { cls := 16, slots := #[.long (-85)], vm := .none },
  { cls := 16, slots := #[.long (-84)], vm := .none },
  { cls := 16, slots := #[.long (-83)], vm := .none },
  { cls := 16, slots := #[.long (-82)], vm := .none },
  { cls := 16, slots := #[.long (-81)], vm := .none },
  { cls := 16, slots := #[.long (-80)], vm := .none },
  { cls := 16, slots := #[.long (-79)], vm := .none },
  { cls := 16, slots := #[.long (-78)], vm := .none },
  { cls := 16, slots := #[.long (-77)], vm := .none },
  { cls := 16, slots := #[.long (-76)], vm := .none },
  { cls := 16, slots := #[.long (-75)], vm := .none },
  { cls := 16, slots := #[.long (-74)], vm := .none },
  { cls := 16, slots := #[.long (-73)], vm := .none },
  { cls := 16, slots := #[.long (-72)], vm := .none },
  { cls := 16, slots := #[.long (-71)], vm := .none },
  { cls := 16, slots := #[.long (-70)], vm := .none },
  { cls := 16, slots := #[.long (-69)], vm := .none },
  { cls := 16, slots := #[.long (-68)], vm := .none },
  { cls := 16, slots := #[.long (-67)], vm := .none },
  { cls := 16, slots := #[.long (-66)], vm := .none },
  { cls := 16, slots := #[.long (-65)], vm := .none },
  { cls := 16, slots := #[.long (-64)], vm := .none },
  { cls := 16, slots := #[.long (-63)], vm := .none },
  { cls := 16, slots := #[.long (-62)], vm := .none },
  { cls := 16, slots := #[.long (-61)], vm := .none },
  { cls := 16, slots := #[.long (-60)], vm := .none },
  { cls := 16, slots := #[.long (-59)], vm := .none },
  { cls := 16, slots := #[.long (-58)], vm := .none },
  { cls := 16, slots := #[.long (-57)], vm := .none },
  { cls := 16, slots := #[.long (-56)], vm := .none },
  { cls := 16, slots := #[.long (-55)], vm := .none },
  { cls := 16, slots := #[.long (-54)], vm := .none },
  { cls := 16, slots := #[.long (-53)], vm := .none },
  { cls := 16, slots := #[.long (-52)], vm := .none },
  { cls := 16, slots := #[.long (-51)], vm := .none },
  { cls := 16, slots := #[.long (-50)], vm := .none },
  { cls := 16, slots := #[.long (-49)], vm := .none },
  { cls := 16, slots := #[.long (-48)], vm := .none },
  { cls := 16, slots := #[.long (-47)], vm := .none },
  { cls := 16, slots := #[.long (-46)], vm := .none },
  { cls := 16, slots := #[.long (-45)], vm := .none },
  { cls := 16, slots := #[.long (-44)], vm := .none },
  { cls := 16, slots := #[.long (-43)], vm := .none },
  { cls := 16, slots := #[.long (-42)], vm := .none },
  { cls := 16, slots := #[.long (-41)], vm := .none },
  { cls := 16, slots := #[.long (-40)], vm := .none },
  { cls := 16, slots := #[.long (-39)], vm := .none },
  { cls := 16, slots := #[.long (-38)], vm := .none },
  { cls := 16, slots := #[.long (-37)], vm := .none },
  { cls := 16, slots := #[.long (-36)], vm := .none },
  { cls := 16, slots := #[.long (-35)], vm := .none },
  { cls := 16, slots := #[.long (-34)], vm := .none },
  { cls := 16, slots := #[.long (-33)], vm := .none },
  { cls := 16, slots := #[.long (-32)], vm := .none },
  { cls := 16, slots := #[.long (-31)], vm := .none },
  { cls := 16, slots := #[.long (-30)], vm := .none },
  { cls := 16, slots := #[.long (-29)], vm := .none },
  { cls := 16, slots := #[.long (-28)], vm := .none },
  { cls := 16, slots := #[.long (-27)], vm := .none },
  { cls := 16, slots := #[.long (-26)], vm := .none },
  { cls := 16, slots := #[.long (-25)], vm := .none },
  { cls := 16, slots := #[.long (-24)], vm := .none },
  { cls := 16, slots := #[.long (-23)], vm := .none },
  { cls := 16, slots := #[.long (-22)], vm := .none },
  { cls := 16, slots := #[.long (-21)], vm := .none },
  { cls := 16, slots := #[.long (-20)], vm := .none },
  { cls := 16, slots := #[.long (-19)], vm := .none },
  { cls := 16, slots := #[.long (-18)], vm := .none },
  { cls := 16, slots := #[.long (-17)], vm := .none },
  { cls := 16, slots := #[.long (-16)], vm := .none },
  { cls := 16, slots := #[.long (-15)], vm := .none },
  { cls := 16, slots := #[.long (-14)], vm := .none },
  { cls := 16, slots := #[.long (-13)], vm := .none },
  { cls := 16, slots := #[.long (-12)], vm := .none },
  { cls := 16, slots := #[.long (-11)], vm := .none },
  { cls := 16, slots := #[.long (-10)], vm := .none },
  { cls := 16, slots := #[.long (-9)], vm := .none },
  { cls := 16, slots := #[.long (-8)], vm := .none },
  { cls := 16, slots := #[.long (-7)], vm := .none },
  { cls := 16, slots := #[.long (-6)], vm := .none },
  { cls := 16, slots := #[.long (-5)], vm := .none },
  { cls := 16, slots := #[.long (-4)], vm := .none },
  { cls := 16, slots := #[.long (-3)], vm := .none },
  { cls := 16, slots := #[.long (-2)], vm := .none },
  { cls := 16, slots := #[.long (-1)], vm := .none },
  { cls := 16, slots := #[.long (0)], vm := .none },
  { cls := 16, slots := #[.long (1)], vm := .none },
  { cls := 16, slots := #[.long (2)], vm := .none },
  { cls := 16, slots := #[.long (3)], vm := .none },
  { cls := 16, slots := #[.long (4)], vm := .none },
  { cls := 16, slots := #[.long (5)], vm := .none },
  { cls := 16, slots := #[.long (6)], vm := .none },
  { cls := 16, slots := #[.long (7)], vm := .none },
  { cls := 16, slots := #[.long (8)], vm := .none },
  { cls := 16, slots := #[.long (9)], vm := .none },
  { cls := 16, slots := #[.long (10)], vm := .none },
  { cls := 16, slots := #[.long (11)], vm := .none },
  { cls := 16, slots := #[.long (12)], vm := .none },
  { cls := 16, slots := #[.long (13)], vm := .none },
  { cls := 16, slots := #[.long (14)], vm := .none },
  { cls := 16, slots := #[.long (15)], vm := .none },
  { cls := 16, slots := #[.long (16)], vm := .none },
  { cls := 16, slots := #[.long (17)], vm := .none },
  { cls := 16, slots := #[.long (18)], vm := .none },
  { cls := 16, slots := #[.long (19)], vm := .none },
  { cls := 16, slots := #[.long (20)], vm := .none },
  { cls := 16, slots := #[.long (21)], vm := .none },
  { cls := 16, slots := #[.long (22)], vm := .none },
  { cls := 16, slots := #[.long (23)], vm := .none },
  { cls := 16, slots := #[.long (24)], vm := .none },
  { cls := 16, slots := #[.long (25)], vm := .none },
  { cls := 16, slots := #[.long (26)], vm := .none },
  { cls := 16, slots := #[.long (27)], vm := .none },
  { cls := 16, slots := #[.long (28)], vm := .none },
  { cls := 16, slots := #[.long (29)], vm := .none },
  { cls := 16, slots := #[.long (30)], vm := .none },
  { cls := 16, slots := #[.long (31)], vm := .none },
  { cls := 16, slots := #[.long (32)], vm := .none },
  { cls := 16, slots := #[.long (33)], vm := .none },
  { cls := 16, slots := #[.long (34)], vm := .none },
  { cls := 16, slots := #[.long (35)], vm := .none },
  { cls := 16, slots := #[.long (36)], vm := .none },
  { cls := 16, slots := #[.long (37)], vm := .none },
  { cls := 16, slots := #[.long (38)], vm := .none },
  { cls := 16, slots := #[.long (39)], vm := .none },
  { cls := 16, slots := #[.long (40)], vm := .none },
  { cls := 16, slots := #[.long (41)], vm := .none },
  { cls := 16, slots := #[.long (42)], vm := .none },
  { cls := 16, slots := #[.long (43)], vm := .none },
  { cls := 16, slots := #[.long (44)], vm := .none },
  { cls := 16, slots := #[.long (45)], vm := .none },
  { cls := 16, slots := #[.long (46)], vm := .none },
  { cls := 16, slots := #[.long (47)], vm := .none },
  { cls := 16, slots := #[.long (48)], vm := .none },
  { cls := 16, slots := #[.long (49)], vm := .none },
  { cls := 16, slots := #[.long (50)], vm := .none },
  { cls := 16, slots := #[.long (51)], vm := .none },
  { cls := 16, slots := #[.long (52)], vm := .none },
  { cls := 16, slots := #[.long (53)], vm := .none },
  { cls := 16, slots := #[.long (54)], vm := .none },
  { cls := 16, slots := #[.long (55)], vm := .none },
  { cls := 16, slots := #[.long (56)], vm := .none },
  { cls := 16, slots := #[.long (57)], vm := .none },
  { cls := 16, slots := #[.long (58)], vm := .none },
  { cls := 16, slots := #[.long (59)], vm := .none },
  { cls := 16, slots := #[.long (60)], vm := .none },
  { cls := 16, slots := #[.long (61)], vm := .none },
  { cls := 16, slots := #[.long (62)], vm := .none },
  { cls := 16, slots := #[.long (63)], vm := .none },
  { cls := 16, slots := #[.long (64)], vm := .none },
  { cls := 16, slots := #[.long (65)], vm := .none },
  { cls := 16, slots := #[.long (66)], vm := .none },
  { cls := 16, slots := #[.long (67)], vm := .none },
  { cls := 16, slots := #[.long (68)], vm := .none },
  { cls := 16, slots := #[.long (69)], vm := .none },
  { cls := 16, slots := #[.long (70)], vm := .none },
  { cls := 16, slots := #[.long (71)], vm := .none },
  { cls := 16, slots := #[.long (72)], vm := .none },
  { cls := 16, slots := #[.long (73)], vm := .none },
  { cls := 16, slots := #[.long (74)], vm := .none },
  { cls := 16, slots := #[.long (75)], vm := .none },
  { cls := 16, slots := #[.long (76)], vm := .none },
  { cls := 16, slots := #[.long (77)], vm := .none },
  { cls := 16, slots := #[.long (78)], vm := .none },
  { cls := 16, slots := #[.long (79)], vm := .none },
  { cls := 16, slots := #[.long (80)], vm := .none },
  { cls := 16, slots := #[.long (81)], vm := .none },
  { cls := 16, slots := #[.long (82)], vm := .none },
  { cls := 16, slots := #[.long (83)], vm := .none },
  { cls := 16, slots := #[.long (84)], vm := .none },
  { cls := 16, slots := #[.long (85)], vm := .none },
  { cls := 16, slots := #[.long (86)], vm := .none },
  { cls := 16, slots := #[.long (87)], vm := .none },
  { cls := 16, slots := #[.long (88)], vm := .none },
  { cls := 16, slots := #[.long (89)], vm := .none },
  { cls := 16, slots := #[.long (90)], vm := .none },
  { cls := 16, slots := #[.long (91)], vm := .none },
  { cls := 16, slots := #[.long (92)], vm := .none },
  { cls := 16, slots := #[.long (93)], vm := .none },
  { cls := 16, slots := #[.long (94)], vm := .none },
  { cls := 16, slots := #[.long (95)], vm := .none },
  { cls := 16, slots := #[.long (96)], vm := .none },
  { cls := 16, slots := #[.long (97)], vm := .none },
  { cls := 16, slots := #[.long (98)], vm := .none },
  { cls := 16, slots := #[.long (99)], vm := .none },
  { cls := 16, slots := #[.long (100)], vm := .none },
  { cls := 16, slots := #[.long (101)], vm := .none },
  { cls := 16, slots := #[.long (102)], vm := .none },
  { cls := 16, slots := #[.long (103)], vm := .none },
  { cls := 16, slots := #[.long (104)], vm := .none },
  { cls := 16, slots := #[.long (105)], vm := .none },
  { cls := 16, slots := #[.long (106)], vm := .none },
  { cls := 16, slots := #[.long (107)], vm := .none },
  { cls := 16, slots := #[.long (108)], vm := .none },
  { cls := 16, slots := #[.long (109)], vm := .none },
  { cls := 16, slots := #[.long (110)], vm := .none },
  { cls := 16, slots := #[.long (111)], vm := .none },
  { cls := 16, slots := #[.long (112)], vm := .none },
  { cls := 16, slots := #[.long (113)], vm := .none },
  { cls := 16, slots := #[.long (114)], vm := .none },
  { cls := 16, slots := #[.long (115)], vm := .none },
  { cls := 16, slots := #[.long (116)], vm := .none },
  { cls := 16, slots := #[.long (117)], vm := .none },
  { cls := 16, slots := #[.long (118)], vm := .none },
  { cls := 16, slots := #[.long (119)], vm := .none },
  { cls := 16, slots := #[.long (120)], vm := .none },
  { cls := 16, slots := #[.long (121)], vm := .none },
  { cls := 16, slots := #[.long (122)], vm := .none },
  { cls := 16, slots := #[.long (123)], vm := .none },
  { cls := 16, slots := #[.long (124)], vm := .none },
  { cls := 16, slots := #[.long (125)], vm := .none },
  { cls := 16, slots := #[.long (126)], vm := .none },
  { cls := 16, slots := #[.long (127)], vm := .none }]
def classes : Array Class := #[k0, k1, k2, k3, k4, k5, k6, k7, k8, k9, k10, k11, k12, k13, k14, k15, k16, k17, k18, k19, k20, k21, k22, k23, k24, k25, k26, k27, k28, k29, k30, k31, k32, k33, k34, k35, k36]
def interned : List (Array UInt16 × Addr) := []
def slotsUsed : Nat := 515
def theMethod : MethodId := ⟨1, 2⟩
def args0 : Array Value := #[.long 5, .long 7, .long 2]
def aboutOver (below : List Frame) : State where
  vm := { classes := classes, interned := interned.toArray }
  heap := heap
  slotsUsed := slotsUsed
  threads := #[{ frames := .invoking theMethod args0 :: below }]
def below0 : List Frame := [.native { method := ⟨0, 0⟩, args := #[] }]
def about1 : State := aboutOver below0
def p0 : Program := .bare "" "" ""
def e0 : Env := launch0.env 0 0 0
theorem w_frames : about1.frames = Frame.invoking theMethod args0 :: below0 := rfl
theorem w_args : argsFit about1.vm theMethod args0 = true := by decide +kernel
theorem w_heap : heapFits about1 = true := by decide +kernel
theorem w_runnable : about1.curStatus? = some .runnable := by decide +kernel
theorem w_alone : about1.alone = true := by decide +kernel
theorem w_named : about1.methodNamed? x = some theMethod := by decide +kernel
theorem w_hears : about1.hears theMethod below0 = true := by decide +kernel
theorem w_ripe : about1.ripe theMethod args0 below0 = true := by decide +kernel
theorem w_running : about1.status = .running := rfl
theorem w_room : about1.hasRoom e0.platform room_1 = true :=
  launch0.hasRoom_least _ room_1 (by decide +kernel) (by decide +kernel) (by decide +kernel) (by decide +kernel) (by decide +kernel) (by decide +kernel)
theorem allAtoms_all (ts : List Jvm.Cond) (a : Array Jvm.Value) (st : Jvm.State) : (allAtoms ts).before a st = ts.all (fun c => c.before a st) := by
  induction ts with
  | nil => rfl
  | cons c t ih =>
    show (Jvm.Cond.and c (allAtoms t)).before a st = _
    rw [Jvm.Cond.before_and, ih, List.all_cons]
def words1 : List Jvm.Cond := Jvm.Cond.code x code maxLocals ret :: tables_1
/-- a 'code' word, met by the world's own term for the bytes: nothing is compared byte by byte -/
theorem code_word {y : MethodName} {bytes : ByteArray} {mx : Nat} {rt : Option FieldType} {a : Array Value} {s : State} {m : MethodId} {meth : Method} {c : Code} (h1 : s.methodNamed? y = some m) (h2 : s.vm.method? m = some meth) (h3 : meth.code = some c) (h4 : c.code = bytes)
    (h5 : (c.maxLocals == mx && c.exceptionTable.isEmpty && decide (c.maxStack ≤ mostOperands) && decide (meth.sig.returnType = rt) && !meth.locks && decide (parseMethodDescriptor y.desc = some meth.sig)) = true) : (Jvm.Cond.code y bytes mx rt).before a s = true := by
  simp only [Bool.and_eq_true, beq_iff_eq, Bool.not_eq_true', decide_eq_true_eq] at h5
  obtain ⟨⟨⟨⟨⟨g1, g2⟩, g3⟩, g4⟩, g5⟩, g6⟩ := h5
  simp [Cond.before, Cond.holds, Cond.value, h1, h2, h3, h4, g1, g2, g3, g4, g5, g6]
def isCode : Jvm.Cond → Bool
  | .code _ _ _ _ => true
  | _ => false
theorem all_split {L : List Jvm.Cond} {P : Jvm.Cond → Bool} (h1 : L.all (fun c => isCode c || P c) = true) (h2 : ∀ c ∈ L.filter isCode, P c = true) : L.all P = true := by
  refine List.all_eq_true.mpr fun c hc => ?_
  have h := List.all_eq_true.mp h1 c hc
  rcases Bool.eq_false_or_eq_true (isCode c) with hi | hi
  · exact h2 c (List.mem_filter.mpr ⟨hc, hi⟩)
  · simpa [hi] using h
theorem w_c0 : (Jvm.Cond.code x code maxLocals ret).before args0 about1 = true := code_word (m := ⟨1, 2⟩) (meth := k1m2) (c := k1c2) (by decide +kernel) rfl rfl rfl (by decide +kernel)
theorem w_c1 : (Jvm.Cond.code ⟨"com/example/bounded_lock/boundedlock/cli/RoundTimesAddPinLaw", "micros", "(J)J"⟩ method_2_code 6 (some .long)).before args0 about1 = true := code_word (m := ⟨1, 1⟩) (meth := k1m1) (c := k1c1) (by decide +kernel) rfl rfl rfl (by decide +kernel)
theorem w_c2 : (Jvm.Cond.code ⟨"java/lang/Math", "min", "(JJ)J"⟩ jdk_29_method_70_code 4 (some .long)).before args0 about1 = true := code_word (m := ⟨2, 2⟩) (meth := k2m2) (c := k2c2) (by decide +kernel) rfl rfl rfl (by decide +kernel)
theorem w_c3 : (Jvm.Cond.code ⟨"java/lang/Math", "max", "(JJ)J"⟩ jdk_29_method_66_code 4 (some .long)).before args0 about1 = true := code_word (m := ⟨2, 1⟩) (meth := k2m1) (c := k2c1) (by decide +kernel) rfl rfl rfl (by decide +kernel)
theorem w_c4 : (Jvm.Cond.code ⟨"com/example/bounded_lock/boundedlock/cli/RoundTimes", "<init>", "()V"⟩ prog_2_method_1_code 1 none).before args0 about1 = true := code_word (m := ⟨3, 0⟩) (meth := k3m0) (c := k3c0) (by decide +kernel) rfl rfl rfl (by decide +kernel)
theorem w_c5 : (Jvm.Cond.code ⟨"java/lang/Object", "<init>", "()V"⟩ object_method_1_code 1 none).before args0 about1 = true := code_word (m := ⟨0, 0⟩) (meth := k0m0) (c := k0c0) (by decide +kernel) rfl rfl rfl (by decide +kernel)
theorem w_c6 : (Jvm.Cond.code ⟨"java/util/TreeMap", "<init>", "()V"⟩ jdk_2729_method_1_code 1 none).before args0 about1 = true := code_word (m := ⟨11, 0⟩) (meth := k11m0) (c := k11c0) (by decide +kernel) rfl rfl rfl (by decide +kernel)
theorem w_c7 : (Jvm.Cond.code ⟨"java/util/AbstractMap", "<init>", "()V"⟩ jdk_71_method_1_code 1 none).before args0 about1 = true := code_word (m := ⟨5, 0⟩) (meth := k5m0) (c := k5c0) (by decide +kernel) rfl rfl rfl (by decide +kernel)
theorem w_c8 : (Jvm.Cond.code ⟨"com/example/bounded_lock/boundedlock/cli/RoundTimes", "add", "(J)V"⟩ prog_2_method_2_code 3 none).before args0 about1 = true := code_word (m := ⟨3, 1⟩) (meth := k3m1) (c := k3c1) (by decide +kernel) rfl rfl rfl (by decide +kernel)
theorem w_c9 : (Jvm.Cond.code ⟨"java/lang/Long", "valueOf", "(J)Ljava/lang/Long;"⟩ jdk_35_method_24_code 3 (Option.some (Jvm.ClassFile.FieldType.object "java/lang/Long"))).before args0 about1 = true := code_word (m := ⟨16, 0⟩) (meth := k16m0) (c := k16c0) (by decide +kernel) rfl rfl rfl (by decide +kernel)
theorem w_c10 : (Jvm.Cond.code ⟨"java/util/TreeMap", "merge", "(Ljava/lang/Object;Ljava/lang/Object;Ljava/util/function/BiFunction;)Ljava/lang/Object;"⟩ jdk_2729_method_26_code 9 (Option.some (Jvm.ClassFile.FieldType.object "java/lang/Object"))).before args0 about1 = true := code_word (m := ⟨11, 1⟩) (meth := k11m1) (c := k11c1) (by decide +kernel) rfl rfl rfl (by decide +kernel)
theorem w_c11 : (Jvm.Cond.code ⟨"java/util/Objects", "requireNonNull", "(Ljava/lang/Object;)Ljava/lang/Object;"⟩ jdk_31_method_10_code 1 (Option.some (Jvm.ClassFile.FieldType.object "java/lang/Object"))).before args0 about1 = true := code_word (m := ⟨19, 1⟩) (meth := k19m1) (c := k19c1) (by decide +kernel) rfl rfl rfl (by decide +kernel)
theorem w_c12 : (Jvm.Cond.code ⟨"java/util/TreeMap", "addEntryToEmptyMap", "(Ljava/lang/Object;Ljava/lang/Object;)V"⟩ jdk_2729_method_30_code 3 none).before args0 about1 = true := code_word (m := ⟨11, 3⟩) (meth := k11m3) (c := k11c3) (by decide +kernel) rfl rfl rfl (by decide +kernel)
theorem w_c13 : (Jvm.Cond.code ⟨"java/util/TreeMap", "compare", "(Ljava/lang/Object;Ljava/lang/Object;)I"⟩ jdk_2729_method_67_code 3 (some .int)).before args0 about1 = true := code_word (m := ⟨11, 6⟩) (meth := k11m6) (c := k11c6) (by decide +kernel) rfl rfl rfl (by decide +kernel)
theorem w_c14 : (Jvm.Cond.code ⟨"java/lang/Long", "compareTo", "(Ljava/lang/Object;)I"⟩ jdk_35_method_64_code 2 (some .int)).before args0 about1 = true := code_word (m := ⟨16, 6⟩) (meth := k16m6) (c := k16c6) (by decide +kernel) rfl rfl rfl (by decide +kernel)
theorem w_c15 : (Jvm.Cond.code ⟨"java/lang/Long", "compareTo", "(Ljava/lang/Long;)I"⟩ jdk_35_method_41_code 2 (some .int)).before args0 about1 = true := code_word (m := ⟨16, 3⟩) (meth := k16m3) (c := k16c3) (by decide +kernel) rfl rfl rfl (by decide +kernel)
theorem w_c16 : (Jvm.Cond.code ⟨"java/lang/Long", "compare", "(JJ)I"⟩ jdk_35_method_42_code 4 (some .int)).before args0 about1 = true := code_word (m := ⟨16, 4⟩) (meth := k16m4) (c := k16c4) (by decide +kernel) rfl rfl rfl (by decide +kernel)
theorem w_c17 : (Jvm.Cond.code ⟨"java/util/TreeMap$Entry", "<init>", "(Ljava/lang/Object;Ljava/lang/Object;Ljava/util/TreeMap$Entry;)V"⟩ jdk_2736_method_1_code 4 none).before args0 about1 = true := code_word (m := ⟨21, 0⟩) (meth := k21m0) (c := k21c0) (by decide +kernel) rfl rfl rfl (by decide +kernel)
theorem w_c18 : (Jvm.Cond.code ⟨"com/example/bounded_lock/boundedlock/cli/RoundTimes", "rounds", "()J"⟩ prog_2_method_4_code 1 (some .long)).before args0 about1 = true := code_word (m := ⟨3, 2⟩) (meth := k3m2) (c := k3c2) (by decide +kernel) rfl rfl rfl (by decide +kernel)
theorem w_c19 : (Jvm.Cond.code ⟨"java/util/TreeMap", "mergeValue", "(Ljava/util/TreeMap$Entry;Ljava/lang/Object;Ljava/util/function/BiFunction;)Ljava/lang/Object;"⟩ jdk_2729_method_33_code 7 (Option.some (Jvm.ClassFile.FieldType.object "java/lang/Object"))).before args0 about1 = true := code_word (m := ⟨11, 4⟩) (meth := k11m4) (c := k11c4) (by decide +kernel) rfl rfl rfl (by decide +kernel)
theorem w_c20 : (Jvm.Cond.code ⟨"java/lang/Long", "sum", "(JJ)J"⟩ jdk_35_method_59_code 4 (some .long)).before args0 about1 = true := code_word (m := ⟨16, 5⟩) (meth := k16m5) (c := k16c5) (by decide +kernel) rfl rfl rfl (by decide +kernel)
theorem w_c21 : (Jvm.Cond.code ⟨"java/lang/Long", "<init>", "(J)V"⟩ jdk_35_method_26_code 3 none).before args0 about1 = true := code_word (m := ⟨16, 1⟩) (meth := k16m1) (c := k16c1) (by decide +kernel) rfl rfl rfl (by decide +kernel)
theorem w_c22 : (Jvm.Cond.code ⟨"java/lang/Number", "<init>", "()V"⟩ jdk_18_method_1_code 1 none).before args0 about1 = true := code_word (m := ⟨12, 0⟩) (meth := k12m0) (c := k12c0) (by decide +kernel) rfl rfl rfl (by decide +kernel)
theorem w_c23 : (Jvm.Cond.code ⟨"java/util/TreeMap", "addEntry", "(Ljava/lang/Object;Ljava/lang/Object;Ljava/util/TreeMap$Entry;Z)V"⟩ jdk_2729_method_29_code 6 none).before args0 about1 = true := code_word (m := ⟨11, 2⟩) (meth := k11m2) (c := k11c2) (by decide +kernel) rfl rfl rfl (by decide +kernel)
theorem w_c24 : (Jvm.Cond.code ⟨"java/util/TreeMap", "fixAfterInsertion", "(Ljava/util/TreeMap$Entry;)V"⟩ jdk_2729_method_83_code 3 none).before args0 about1 = true := code_word (m := ⟨11, 16⟩) (meth := k11m16) (c := k11c16) (by decide +kernel) rfl rfl rfl (by decide +kernel)
theorem w_c25 : (Jvm.Cond.code ⟨"com/example/bounded_lock/boundedlock/cli/RoundTimes", "percentile", "(I)J"⟩ prog_2_method_5_code 8 (some .long)).before args0 about1 = true := code_word (m := ⟨3, 3⟩) (meth := k3m3) (c := k3c3) (by decide +kernel) rfl rfl rfl (by decide +kernel)
theorem w_c26 : (Jvm.Cond.code ⟨"java/util/TreeMap", "entrySet", "()Ljava/util/Set;"⟩ jdk_2729_method_53_code 2 (Option.some (Jvm.ClassFile.FieldType.object "java/util/Set"))).before args0 about1 = true := code_word (m := ⟨11, 5⟩) (meth := k11m5) (c := k11c5) (by decide +kernel) rfl rfl rfl (by decide +kernel)
theorem w_c27 : (Jvm.Cond.code ⟨"java/util/TreeMap$EntrySet", "<init>", "(Ljava/util/TreeMap;)V"⟩ jdk_2738_method_1_code 2 none).before args0 about1 = true := code_word (m := ⟨27, 0⟩) (meth := k27m0) (c := k27c0) (by decide +kernel) rfl rfl rfl (by decide +kernel)
theorem w_c28 : (Jvm.Cond.code ⟨"java/util/AbstractSet", "<init>", "()V"⟩ jdk_91_method_1_code 1 none).before args0 about1 = true := code_word (m := ⟨26, 0⟩) (meth := k26m0) (c := k26c0) (by decide +kernel) rfl rfl rfl (by decide +kernel)
theorem w_c29 : (Jvm.Cond.code ⟨"java/util/AbstractCollection", "<init>", "()V"⟩ jdk_22_method_1_code 1 none).before args0 about1 = true := code_word (m := ⟨24, 0⟩) (meth := k24m0) (c := k24c0) (by decide +kernel) rfl rfl rfl (by decide +kernel)
theorem w_c30 : (Jvm.Cond.code ⟨"java/util/TreeMap$EntrySet", "iterator", "()Ljava/util/Iterator;"⟩ jdk_2738_method_2_code 1 (Option.some (Jvm.ClassFile.FieldType.object "java/util/Iterator"))).before args0 about1 = true := code_word (m := ⟨27, 1⟩) (meth := k27m1) (c := k27c1) (by decide +kernel) rfl rfl rfl (by decide +kernel)
theorem w_c31 : (Jvm.Cond.code ⟨"java/util/TreeMap", "getFirstEntry", "()Ljava/util/TreeMap$Entry;"⟩ jdk_2729_method_72_code 2 (Option.some (Jvm.ClassFile.FieldType.object "java/util/TreeMap$Entry"))).before args0 about1 = true := code_word (m := ⟨11, 7⟩) (meth := k11m7) (c := k11c7) (by decide +kernel) rfl rfl rfl (by decide +kernel)
theorem w_c32 : (Jvm.Cond.code ⟨"java/util/TreeMap$EntryIterator", "<init>", "(Ljava/util/TreeMap;Ljava/util/TreeMap$Entry;)V"⟩ jdk_2737_method_1_code 3 none).before args0 about1 = true := code_word (m := ⟨30, 0⟩) (meth := k30m0) (c := k30c0) (by decide +kernel) rfl rfl rfl (by decide +kernel)
theorem w_c33 : (Jvm.Cond.code ⟨"java/util/TreeMap$PrivateEntryIterator", "<init>", "(Ljava/util/TreeMap;Ljava/util/TreeMap$Entry;)V"⟩ jdk_2750_method_1_code 3 none).before args0 about1 = true := code_word (m := ⟨29, 0⟩) (meth := k29m0) (c := k29c0) (by decide +kernel) rfl rfl rfl (by decide +kernel)
theorem w_c34 : (Jvm.Cond.code ⟨"java/util/TreeMap$PrivateEntryIterator", "hasNext", "()Z"⟩ jdk_2750_method_2_code 1 (some .boolean)).before args0 about1 = true := code_word (m := ⟨29, 1⟩) (meth := k29m1) (c := k29c1) (by decide +kernel) rfl rfl rfl (by decide +kernel)
theorem w_c35 : (Jvm.Cond.code ⟨"java/util/TreeMap$EntryIterator", "next", "()Ljava/lang/Object;"⟩ jdk_2737_method_3_code 1 (Option.some (Jvm.ClassFile.FieldType.object "java/lang/Object"))).before args0 about1 = true := code_word (m := ⟨30, 2⟩) (meth := k30m2) (c := k30c2) (by decide +kernel) rfl rfl rfl (by decide +kernel)
theorem w_c36 : (Jvm.Cond.code ⟨"java/util/TreeMap$EntryIterator", "next", "()Ljava/util/Map$Entry;"⟩ jdk_2737_method_2_code 1 (Option.some (Jvm.ClassFile.FieldType.object "java/util/Map$Entry"))).before args0 about1 = true := code_word (m := ⟨30, 1⟩) (meth := k30m1) (c := k30c1) (by decide +kernel) rfl rfl rfl (by decide +kernel)
theorem w_c37 : (Jvm.Cond.code ⟨"java/util/TreeMap$PrivateEntryIterator", "nextEntry", "()Ljava/util/TreeMap$Entry;"⟩ jdk_2750_method_3_code 2 (Option.some (Jvm.ClassFile.FieldType.object "java/util/TreeMap$Entry"))).before args0 about1 = true := code_word (m := ⟨29, 2⟩) (meth := k29m2) (c := k29c2) (by decide +kernel) rfl rfl rfl (by decide +kernel)
theorem w_c38 : (Jvm.Cond.code ⟨"java/util/TreeMap", "successor", "(Ljava/util/TreeMap$Entry;)Ljava/util/TreeMap$Entry;"⟩ jdk_2729_method_74_code 3 (Option.some (Jvm.ClassFile.FieldType.object "java/util/TreeMap$Entry"))).before args0 about1 = true := code_word (m := ⟨11, 8⟩) (meth := k11m8) (c := k11c8) (by decide +kernel) rfl rfl rfl (by decide +kernel)
theorem w_c39 : (Jvm.Cond.code ⟨"java/util/TreeMap$Entry", "getValue", "()Ljava/lang/Object;"⟩ jdk_2736_method_3_code 1 (Option.some (Jvm.ClassFile.FieldType.object "java/lang/Object"))).before args0 about1 = true := code_word (m := ⟨21, 2⟩) (meth := k21m2) (c := k21c2) (by decide +kernel) rfl rfl rfl (by decide +kernel)
theorem w_c40 : (Jvm.Cond.code ⟨"java/lang/Long", "longValue", "()J"⟩ jdk_35_method_31_code 1 (some .long)).before args0 about1 = true := code_word (m := ⟨16, 2⟩) (meth := k16m2) (c := k16c2) (by decide +kernel) rfl rfl rfl (by decide +kernel)
theorem w_c41 : (Jvm.Cond.code ⟨"java/util/TreeMap$Entry", "getKey", "()Ljava/lang/Object;"⟩ jdk_2736_method_2_code 1 (Option.some (Jvm.ClassFile.FieldType.object "java/lang/Object"))).before args0 about1 = true := code_word (m := ⟨21, 1⟩) (meth := k21m1) (c := k21c1) (by decide +kernel) rfl rfl rfl (by decide +kernel)
theorem w_c42 : (Jvm.Cond.code ⟨"java/util/TreeMap", "parentOf", "(Ljava/util/TreeMap$Entry;)Ljava/util/TreeMap$Entry;"⟩ jdk_2729_method_77_code 1 (Option.some (Jvm.ClassFile.FieldType.object "java/util/TreeMap$Entry"))).before args0 about1 = true := code_word (m := ⟨11, 10⟩) (meth := k11m10) (c := k11c10) (by decide +kernel) rfl rfl rfl (by decide +kernel)
theorem w_c43 : (Jvm.Cond.code ⟨"java/util/TreeMap", "leftOf", "(Ljava/util/TreeMap$Entry;)Ljava/util/TreeMap$Entry;"⟩ jdk_2729_method_79_code 1 (Option.some (Jvm.ClassFile.FieldType.object "java/util/TreeMap$Entry"))).before args0 about1 = true := code_word (m := ⟨11, 12⟩) (meth := k11m12) (c := k11c12) (by decide +kernel) rfl rfl rfl (by decide +kernel)
theorem w_c44 : (Jvm.Cond.code ⟨"java/util/TreeMap", "colorOf", "(Ljava/util/TreeMap$Entry;)Z"⟩ jdk_2729_method_76_code 1 (some .boolean)).before args0 about1 = true := code_word (m := ⟨11, 9⟩) (meth := k11m9) (c := k11c9) (by decide +kernel) rfl rfl rfl (by decide +kernel)
theorem w_c45 : (Jvm.Cond.code ⟨"java/util/TreeMap", "setColor", "(Ljava/util/TreeMap$Entry;Z)V"⟩ jdk_2729_method_78_code 2 none).before args0 about1 = true := code_word (m := ⟨11, 11⟩) (meth := k11m11) (c := k11c11) (by decide +kernel) rfl rfl rfl (by decide +kernel)
theorem w_c46 : (Jvm.Cond.code ⟨"java/util/TreeMap", "rotateLeft", "(Ljava/util/TreeMap$Entry;)V"⟩ jdk_2729_method_81_code 3 none).before args0 about1 = true := code_word (m := ⟨11, 14⟩) (meth := k11m14) (c := k11c14) (by decide +kernel) rfl rfl rfl (by decide +kernel)
theorem w_c47 : (Jvm.Cond.code ⟨"java/util/TreeMap", "rotateRight", "(Ljava/util/TreeMap$Entry;)V"⟩ jdk_2729_method_82_code 3 none).before args0 about1 = true := code_word (m := ⟨11, 15⟩) (meth := k11m15) (c := k11c15) (by decide +kernel) rfl rfl rfl (by decide +kernel)
theorem w_c48 : (Jvm.Cond.code ⟨"java/util/TreeMap", "rightOf", "(Ljava/util/TreeMap$Entry;)Ljava/util/TreeMap$Entry;"⟩ jdk_2729_method_80_code 1 (Option.some (Jvm.ClassFile.FieldType.object "java/util/TreeMap$Entry"))).before args0 about1 = true := code_word (m := ⟨11, 13⟩) (meth := k11m13) (c := k11c13) (by decide +kernel) rfl rfl rfl (by decide +kernel)
def codes1 : List Jvm.Cond := [Jvm.Cond.code x code maxLocals ret, Jvm.Cond.code ⟨"com/example/bounded_lock/boundedlock/cli/RoundTimesAddPinLaw", "micros", "(J)J"⟩ method_2_code 6 (some .long), Jvm.Cond.code ⟨"java/lang/Math", "min", "(JJ)J"⟩ jdk_29_method_70_code 4 (some .long), Jvm.Cond.code ⟨"java/lang/Math", "max", "(JJ)J"⟩ jdk_29_method_66_code 4 (some .long), Jvm.Cond.code ⟨"com/example/bounded_lock/boundedlock/cli/RoundTimes", "<init>", "()V"⟩ prog_2_method_1_code 1 none, Jvm.Cond.code ⟨"java/lang/Object", "<init>", "()V"⟩ object_method_1_code 1 none, Jvm.Cond.code ⟨"java/util/TreeMap", "<init>", "()V"⟩ jdk_2729_method_1_code 1 none, Jvm.Cond.code ⟨"java/util/AbstractMap", "<init>", "()V"⟩ jdk_71_method_1_code 1 none, Jvm.Cond.code ⟨"com/example/bounded_lock/boundedlock/cli/RoundTimes", "add", "(J)V"⟩ prog_2_method_2_code 3 none, Jvm.Cond.code ⟨"java/lang/Long", "valueOf", "(J)Ljava/lang/Long;"⟩ jdk_35_method_24_code 3 (Option.some (Jvm.ClassFile.FieldType.object "java/lang/Long")), Jvm.Cond.code ⟨"java/util/TreeMap", "merge", "(Ljava/lang/Object;Ljava/lang/Object;Ljava/util/function/BiFunction;)Ljava/lang/Object;"⟩ jdk_2729_method_26_code 9 (Option.some (Jvm.ClassFile.FieldType.object "java/lang/Object")), Jvm.Cond.code ⟨"java/util/Objects", "requireNonNull", "(Ljava/lang/Object;)Ljava/lang/Object;"⟩ jdk_31_method_10_code 1 (Option.some (Jvm.ClassFile.FieldType.object "java/lang/Object")), Jvm.Cond.code ⟨"java/util/TreeMap", "addEntryToEmptyMap", "(Ljava/lang/Object;Ljava/lang/Object;)V"⟩ jdk_2729_method_30_code 3 none, Jvm.Cond.code ⟨"java/util/TreeMap", "compare", "(Ljava/lang/Object;Ljava/lang/Object;)I"⟩ jdk_2729_method_67_code 3 (some .int), Jvm.Cond.code ⟨"java/lang/Long", "compareTo", "(Ljava/lang/Object;)I"⟩ jdk_35_method_64_code 2 (some .int), Jvm.Cond.code ⟨"java/lang/Long", "compareTo", "(Ljava/lang/Long;)I"⟩ jdk_35_method_41_code 2 (some .int), Jvm.Cond.code ⟨"java/lang/Long", "compare", "(JJ)I"⟩ jdk_35_method_42_code 4 (some .int), Jvm.Cond.code ⟨"java/util/TreeMap$Entry", "<init>", "(Ljava/lang/Object;Ljava/lang/Object;Ljava/util/TreeMap$Entry;)V"⟩ jdk_2736_method_1_code 4 none, Jvm.Cond.code ⟨"com/example/bounded_lock/boundedlock/cli/RoundTimes", "rounds", "()J"⟩ prog_2_method_4_code 1 (some .long), Jvm.Cond.code ⟨"java/util/TreeMap", "mergeValue", "(Ljava/util/TreeMap$Entry;Ljava/lang/Object;Ljava/util/function/BiFunction;)Ljava/lang/Object;"⟩ jdk_2729_method_33_code 7 (Option.some (Jvm.ClassFile.FieldType.object "java/lang/Object")), Jvm.Cond.code ⟨"java/lang/Long", "sum", "(JJ)J"⟩ jdk_35_method_59_code 4 (some .long), Jvm.Cond.code ⟨"java/lang/Long", "<init>", "(J)V"⟩ jdk_35_method_26_code 3 none, Jvm.Cond.code ⟨"java/lang/Number", "<init>", "()V"⟩ jdk_18_method_1_code 1 none, Jvm.Cond.code ⟨"java/util/TreeMap", "addEntry", "(Ljava/lang/Object;Ljava/lang/Object;Ljava/util/TreeMap$Entry;Z)V"⟩ jdk_2729_method_29_code 6 none, Jvm.Cond.code ⟨"java/util/TreeMap", "fixAfterInsertion", "(Ljava/util/TreeMap$Entry;)V"⟩ jdk_2729_method_83_code 3 none, Jvm.Cond.code ⟨"com/example/bounded_lock/boundedlock/cli/RoundTimes", "percentile", "(I)J"⟩ prog_2_method_5_code 8 (some .long), Jvm.Cond.code ⟨"java/util/TreeMap", "entrySet", "()Ljava/util/Set;"⟩ jdk_2729_method_53_code 2 (Option.some (Jvm.ClassFile.FieldType.object "java/util/Set")), Jvm.Cond.code ⟨"java/util/TreeMap$EntrySet", "<init>", "(Ljava/util/TreeMap;)V"⟩ jdk_2738_method_1_code 2 none, Jvm.Cond.code ⟨"java/util/AbstractSet", "<init>", "()V"⟩ jdk_91_method_1_code 1 none, Jvm.Cond.code ⟨"java/util/AbstractCollection", "<init>", "()V"⟩ jdk_22_method_1_code 1 none, Jvm.Cond.code ⟨"java/util/TreeMap$EntrySet", "iterator", "()Ljava/util/Iterator;"⟩ jdk_2738_method_2_code 1 (Option.some (Jvm.ClassFile.FieldType.object "java/util/Iterator")), Jvm.Cond.code ⟨"java/util/TreeMap", "getFirstEntry", "()Ljava/util/TreeMap$Entry;"⟩ jdk_2729_method_72_code 2 (Option.some (Jvm.ClassFile.FieldType.object "java/util/TreeMap$Entry")), Jvm.Cond.code ⟨"java/util/TreeMap$EntryIterator", "<init>", "(Ljava/util/TreeMap;Ljava/util/TreeMap$Entry;)V"⟩ jdk_2737_method_1_code 3 none, Jvm.Cond.code ⟨"java/util/TreeMap$PrivateEntryIterator", "<init>", "(Ljava/util/TreeMap;Ljava/util/TreeMap$Entry;)V"⟩ jdk_2750_method_1_code 3 none, Jvm.Cond.code ⟨"java/util/TreeMap$PrivateEntryIterator", "hasNext", "()Z"⟩ jdk_2750_method_2_code 1 (some .boolean), Jvm.Cond.code ⟨"java/util/TreeMap$EntryIterator", "next", "()Ljava/lang/Object;"⟩ jdk_2737_method_3_code 1 (Option.some (Jvm.ClassFile.FieldType.object "java/lang/Object")), Jvm.Cond.code ⟨"java/util/TreeMap$EntryIterator", "next", "()Ljava/util/Map$Entry;"⟩ jdk_2737_method_2_code 1 (Option.some (Jvm.ClassFile.FieldType.object "java/util/Map$Entry")), Jvm.Cond.code ⟨"java/util/TreeMap$PrivateEntryIterator", "nextEntry", "()Ljava/util/TreeMap$Entry;"⟩ jdk_2750_method_3_code 2 (Option.some (Jvm.ClassFile.FieldType.object "java/util/TreeMap$Entry")), Jvm.Cond.code ⟨"java/util/TreeMap", "successor", "(Ljava/util/TreeMap$Entry;)Ljava/util/TreeMap$Entry;"⟩ jdk_2729_method_74_code 3 (Option.some (Jvm.ClassFile.FieldType.object "java/util/TreeMap$Entry")), Jvm.Cond.code ⟨"java/util/TreeMap$Entry", "getValue", "()Ljava/lang/Object;"⟩ jdk_2736_method_3_code 1 (Option.some (Jvm.ClassFile.FieldType.object "java/lang/Object")), Jvm.Cond.code ⟨"java/lang/Long", "longValue", "()J"⟩ jdk_35_method_31_code 1 (some .long), Jvm.Cond.code ⟨"java/util/TreeMap$Entry", "getKey", "()Ljava/lang/Object;"⟩ jdk_2736_method_2_code 1 (Option.some (Jvm.ClassFile.FieldType.object "java/lang/Object")), Jvm.Cond.code ⟨"java/util/TreeMap", "parentOf", "(Ljava/util/TreeMap$Entry;)Ljava/util/TreeMap$Entry;"⟩ jdk_2729_method_77_code 1 (Option.some (Jvm.ClassFile.FieldType.object "java/util/TreeMap$Entry")), Jvm.Cond.code ⟨"java/util/TreeMap", "leftOf", "(Ljava/util/TreeMap$Entry;)Ljava/util/TreeMap$Entry;"⟩ jdk_2729_method_79_code 1 (Option.some (Jvm.ClassFile.FieldType.object "java/util/TreeMap$Entry")), Jvm.Cond.code ⟨"java/util/TreeMap", "colorOf", "(Ljava/util/TreeMap$Entry;)Z"⟩ jdk_2729_method_76_code 1 (some .boolean), Jvm.Cond.code ⟨"java/util/TreeMap", "setColor", "(Ljava/util/TreeMap$Entry;Z)V"⟩ jdk_2729_method_78_code 2 none, Jvm.Cond.code ⟨"java/util/TreeMap", "rotateLeft", "(Ljava/util/TreeMap$Entry;)V"⟩ jdk_2729_method_81_code 3 none, Jvm.Cond.code ⟨"java/util/TreeMap", "rotateRight", "(Ljava/util/TreeMap$Entry;)V"⟩ jdk_2729_method_82_code 3 none, Jvm.Cond.code ⟨"java/util/TreeMap", "rightOf", "(Ljava/util/TreeMap$Entry;)Ljava/util/TreeMap$Entry;"⟩ jdk_2729_method_80_code 1 (Option.some (Jvm.ClassFile.FieldType.object "java/util/TreeMap$Entry"))]
theorem codes_eq : words1.filter isCode = codes1 := rfl
theorem w_codes : ∀ c ∈ words1.filter isCode, c.before args0 about1 = true := by
  rw [codes_eq]
  intro c hc
  simp only [codes1, List.mem_cons, List.not_mem_nil, or_false] at hc
  rcases hc with rfl | rfl | rfl | rfl | rfl | rfl | rfl | rfl | rfl | rfl | rfl | rfl | rfl | rfl | rfl | rfl | rfl | rfl | rfl | rfl | rfl | rfl | rfl | rfl | rfl | rfl | rfl | rfl | rfl | rfl | rfl | rfl | rfl | rfl | rfl | rfl | rfl | rfl | rfl | rfl | rfl | rfl | rfl | rfl | rfl | rfl | rfl | rfl | rfl
  · exact w_c0
  · exact w_c1
  · exact w_c2
  · exact w_c3
  · exact w_c4
  · exact w_c5
  · exact w_c6
  · exact w_c7
  · exact w_c8
  · exact w_c9
  · exact w_c10
  · exact w_c11
  · exact w_c12
  · exact w_c13
  · exact w_c14
  · exact w_c15
  · exact w_c16
  · exact w_c17
  · exact w_c18
  · exact w_c19
  · exact w_c20
  · exact w_c21
  · exact w_c22
  · exact w_c23
  · exact w_c24
  · exact w_c25
  · exact w_c26
  · exact w_c27
  · exact w_c28
  · exact w_c29
  · exact w_c30
  · exact w_c31
  · exact w_c32
  · exact w_c33
  · exact w_c34
  · exact w_c35
  · exact w_c36
  · exact w_c37
  · exact w_c38
  · exact w_c39
  · exact w_c40
  · exact w_c41
  · exact w_c42
  · exact w_c43
  · exact w_c44
  · exact w_c45
  · exact w_c46
  · exact w_c47
  · exact w_c48
theorem w_t1 : (words1.take 24).all (fun c => isCode c || c.before args0 about1) = true := by decide +kernel
theorem w_t2 : ((words1.drop 24).take 24).all (fun c => isCode c || c.before args0 about1) = true := by decide +kernel
theorem w_t3 : (((words1.drop 24).drop 24).take 24).all (fun c => isCode c || c.before args0 about1) = true := by decide +kernel
theorem w_t4 : ((((words1.drop 24).drop 24).drop 24).take 24).all (fun c => isCode c || c.before args0 about1) = true := by decide +kernel
theorem w_t5 : (((((words1.drop 24).drop 24).drop 24).drop 24).take 24).all (fun c => isCode c || c.before args0 about1) = true := by decide +kernel
theorem w_t6 : ((((((words1.drop 24).drop 24).drop 24).drop 24).drop 24).take 24).all (fun c => isCode c || c.before args0 about1) = true := by decide +kernel
theorem w_t7 : (((((((words1.drop 24).drop 24).drop 24).drop 24).drop 24).drop 24).take 24).all (fun c => isCode c || c.before args0 about1) = true := by decide +kernel
theorem w_t8 : ((((((((words1.drop 24).drop 24).drop 24).drop 24).drop 24).drop 24).drop 24).take 24).all (fun c => isCode c || c.before args0 about1) = true := by decide +kernel
theorem w_t9 : (((((((((words1.drop 24).drop 24).drop 24).drop 24).drop 24).drop 24).drop 24).drop 24).take 24).all (fun c => isCode c || c.before args0 about1) = true := by decide +kernel
theorem w_t10 : ((((((((((words1.drop 24).drop 24).drop 24).drop 24).drop 24).drop 24).drop 24).drop 24).drop 24).take 24).all (fun c => isCode c || c.before args0 about1) = true := by decide +kernel
theorem w_t11 : (((((((((((words1.drop 24).drop 24).drop 24).drop 24).drop 24).drop 24).drop 24).drop 24).drop 24).drop 24).take 24).all (fun c => isCode c || c.before args0 about1) = true := by decide +kernel
theorem w_t12 : ((((((((((((words1.drop 24).drop 24).drop 24).drop 24).drop 24).drop 24).drop 24).drop 24).drop 24).drop 24).drop 24).take 24).all (fun c => isCode c || c.before args0 about1) = true := by decide +kernel
theorem w_t13 : (((((((((((((words1.drop 24).drop 24).drop 24).drop 24).drop 24).drop 24).drop 24).drop 24).drop 24).drop 24).drop 24).drop 24).take 24).all (fun c => isCode c || c.before args0 about1) = true := by decide +kernel
theorem w_t14 : (((((((((((((words1.drop 24).drop 24).drop 24).drop 24).drop 24).drop 24).drop 24).drop 24).drop 24).drop 24).drop 24).drop 24).drop 24).all (fun c => isCode c || c.before args0 about1) = true := by decide +kernel
theorem w_tables : (allAtoms (Jvm.Cond.code x code maxLocals ret :: tables_1)).before args0 about1 = true := by
  rw [allAtoms_all]
  show words1.all (fun c => c.before args0 about1) = true
  refine all_split ?_ w_codes
  rw [← List.take_append_drop 24 words1, List.all_append, w_t1, ← List.take_append_drop 24 (words1.drop 24), List.all_append, w_t2, ← List.take_append_drop 24 ((words1.drop 24).drop 24), List.all_append, w_t3, ← List.take_append_drop 24 (((words1.drop 24).drop 24).drop 24), List.all_append, w_t4, ← List.take_append_drop 24 ((((words1.drop 24).drop 24).drop 24).drop 24), List.all_append, w_t5, ← List.take_append_drop 24 (((((words1.drop 24).drop 24).drop 24).drop 24).drop 24), List.all_append, w_t6, ← List.take_append_drop 24 ((((((words1.drop 24).drop 24).drop 24).drop 24).drop 24).drop 24), List.all_append, w_t7, ← List.take_append_drop 24 (((((((words1.drop 24).drop 24).drop 24).drop 24).drop 24).drop 24).drop 24), List.all_append, w_t8, ← List.take_append_drop 24 ((((((((words1.drop 24).drop 24).drop 24).drop 24).drop 24).drop 24).drop 24).drop 24), List.all_append, w_t9, ← List.take_append_drop 24 (((((((((words1.drop 24).drop 24).drop 24).drop 24).drop 24).drop 24).drop 24).drop 24).drop 24), List.all_append, w_t10, ← List.take_append_drop 24 ((((((((((words1.drop 24).drop 24).drop 24).drop 24).drop 24).drop 24).drop 24).drop 24).drop 24).drop 24), List.all_append, w_t11, ← List.take_append_drop 24 (((((((((((words1.drop 24).drop 24).drop 24).drop 24).drop 24).drop 24).drop 24).drop 24).drop 24).drop 24).drop 24), List.all_append, w_t12, ← List.take_append_drop 24 ((((((((((((words1.drop 24).drop 24).drop 24).drop 24).drop 24).drop 24).drop 24).drop 24).drop 24).drop 24).drop 24).drop 24), List.all_append, w_t13, w_t14]
  rfl
theorem w_rest : rest_1_c.before args0 about1 = true := by decide +kernel
theorem w_case : (Jvm.Cond.and given_1 narrow_1).before args0 about1 = true := by decide +kernel
theorem w_applies : (headSpec (Jvm.Cond.code x code maxLocals ret :: tables_1) room_1).applies x e0.platform about1 = true :=
  (Spec.applies_iff w_frames).mpr ⟨w_running, w_runnable, w_alone, w_named, w_hears, w_ripe, w_room, w_tables⟩
theorem atStart : AtStart classFile x code maxLocals ret World_1 tables_1 room_1 Calls_1 rest_1 Pre_1 launch0 p0 e0 about1 theMethod args0 below0 :=
  ⟨lists_1, trivial, launch0.admits_env _ _ _, launch0.least_env, fairChoices_fair.cas, fairChoices_fair.clock, w_frames, w_args, w_heap, w_applies, trivial, w_rest, w_case⟩
end start1
theorem witness_1 : WitnessClaimed_1 := ⟨start1.p0, start1.e0, start1.about1, start1.theMethod, start1.args0, start1.below0, start1.atStart⟩
end Jvm.Pilot.@@N@@
