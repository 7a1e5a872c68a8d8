import JvmDerived
import JvmDerived.Pilot.@@N@@Statement
import JvmDerived.Pilot.@@N@@Code
set_option linter.unusedVariables false
set_option linter.unusedSimpArgs false
set_option maxRecDepth 65536
set_option maxHeartbeats 40000000
@@BLOCK:NumsL.lean.txt@@
namespace Jvm.RoadKit
open Sem ClassFile Op Lib Jvm.Stand Jvm.Free Jvm.LawKit
/-- from U the run comes to an end of the invocation at which P holds -/
def Wp (p : Program) (e : Env) (below : List Frame) (P : State → Outcome → Prop) (U : State) : Prop :=
  ∃ s₂ o, Steps p.tables e below U s₂ ∧ s₂.status = .running ∧ Ended s₂ below o ∧ P s₂ o
theorem Wp.of {p : Program} {e : Env} {below : List Frame} {P : State → Outcome → Prop} {U U' : State} (f : ∀ t, Steps p.tables e below U' t → Steps p.tables e below U t) (k : Wp p e below P U') : Wp p e below P U := by
  obtain ⟨s2, o, a, b⟩ := k; exact ⟨s2, o, f _ a, b⟩
theorem Wp.tr {p : Program} {e : Env} {below : List Frame} {P : State → Outcome → Prop} {U U' : State} (f : Steps p.tables e below U U') (k : Wp p e below P U') : Wp p e below P U := by
  obtain ⟨s2, o, a, b⟩ := k; exact ⟨s2, o, f.trans a, b⟩
theorem Wp.cast {p : Program} {e : Env} {below : List Frame} {P : State → Outcome → Prop} {T : State} {g g' : JFrame} (q : g = g') (k : Wp p e below P (T.setTop g')) : Wp p e below P (T.setTop g) := q ▸ k
/-- where the walk stands: the library's Stand, what stays the same throughout a body, the heap, that only new places were written, that the start's cells are as they were -/
def Sd (Z : State) (n0 kk : Nat) (code : ByteArray) (ml : Nat) (own nm : String) (ret : Option FieldType) (h : Heap) (p : Program) (l : Launch) (e : Env) (R : Room) (s : State) (m : MethodId) (args : Array Value) (below : List Frame) (meth : Method) (c : Code) (T : State) (locs : List Loc) (cells slots : Nat) : Prop :=
  Stand p l e R s m args below meth c T locs cells slots ∧ (p.tables.exec = Jvm.exec ∧ c.code = code ∧ c.maxLocals = ml ∧ s.vm.findClass own = some m.cls ∧ Z.Warmed39 s.vm ∧ meth.sig.returnType = ret ∧ meth.name = nm ∧ meth.locks = false) ∧ T.heap = h ∧ Fr n0 locs ∧ Old Z n0 h ∧ kk ≤ h.size
/-- an instruction of n bytes and the pc behind it -/
def Dc (code : ByteArray) (pc : Nat) (i : Instr) (n pc' : Nat) : Prop := decode code pc = .ok (i, n) ∧ pc + n = pc'
/-- a branch of three bytes, its target and the pc behind it -/
def Bc (code : ByteArray) (pc : Nat) (f : Int → Instr) (t pc' : Nat) : Prop := ∃ o, decode code pc = .ok (f o, 3) ∧ 0 ≤ (pc : Int) + o ∧ ((pc : Int) + o).toNat = t ∧ pc + 3 = pc'

section Sd
variable {Z : State} {n0 kk : Nat} {code : ByteArray} {ml : Nat} {own nm : String} {ret : Option FieldType} {h : Heap} {p : Program} {l : Launch} {e : Env} {R : Room} {s : State} {m : MethodId} {args : Array Value} {below : List Frame} {meth : Method} {c : Code} {T : State} {locs : List Loc} {cells slots : Nat} {P : State → Outcome → Prop} {a0 : Array Value}
theorem Sd.st (X : Sd Z n0 kk code ml own nm ret h p l e R s m args below meth c T locs cells slots) : Stand p l e R s m args below meth c T locs cells slots := X.1
theorem Sd.hx (X : Sd Z n0 kk code ml own nm ret h p l e R s m args below meth c T locs cells slots) : p.tables.exec = Jvm.exec := X.2.1.1
theorem Sd.hb (X : Sd Z n0 kk code ml own nm ret h p l e R s m args below meth c T locs cells slots) {pc : Nat} {r : Except DecodeError (Instr × Nat)} (q : decode code pc = r) : decode c.code pc = r := X.2.1.2.1 ▸ q
theorem Sd.hml (X : Sd Z n0 kk code ml own nm ret h p l e R s m args below meth c T locs cells slots) : c.maxLocals = ml := X.2.1.2.2.1
theorem Sd.hown (X : Sd Z n0 kk code ml own nm ret h p l e R s m args below meth c T locs cells slots) : s.vm.findClass own = some m.cls := X.2.1.2.2.2.1
theorem Sd.hZ (X : Sd Z n0 kk code ml own nm ret h p l e R s m args below meth c T locs cells slots) : Z.Warmed39 s.vm := X.2.1.2.2.2.2.1
theorem Sd.hret (X : Sd Z n0 kk code ml own nm ret h p l e R s m args below meth c T locs cells slots) : meth.sig.returnType = ret := X.2.1.2.2.2.2.2.1
theorem Sd.hnm (X : Sd Z n0 kk code ml own nm ret h p l e R s m args below meth c T locs cells slots) : meth.name = nm := X.2.1.2.2.2.2.2.2.1
theorem Sd.hlk (X : Sd Z n0 kk code ml own nm ret h p l e R s m args below meth c T locs cells slots) : meth.locks = false := X.2.1.2.2.2.2.2.2.2
theorem Sd.eh (X : Sd Z n0 kk code ml own nm ret h p l e R s m args below meth c T locs cells slots) : T.heap = h := X.2.2.1
theorem Sd.fr (X : Sd Z n0 kk code ml own nm ret h p l e R s m args below meth c T locs cells slots) : Fr n0 locs := X.2.2.2.1
theorem Sd.old (X : Sd Z n0 kk code ml own nm ret h p l e R s m args below meth c T locs cells slots) : Old Z n0 h := X.2.2.2.2.1
theorem Sd.hkk (X : Sd Z n0 kk code ml own nm ret h p l e R s m args below meth c T locs cells slots) : kk ≤ h.size := X.2.2.2.2.2
theorem Sd.mk' {h' : Heap} {T' : State} {locs' : List Loc} {c' s' : Nat} (X : Sd Z n0 kk code ml own nm ret h p l e R s m args below meth c T locs cells slots) (Y : Stand p l e R s m args below meth c T' locs' c' s') (q1 : T'.heap = h') (q2 : Fr n0 locs') (q3 : Old Z n0 h') (q4 : h.size ≤ h'.size) : Sd Z n0 kk code ml own nm ret h' p l e R s m args below meth c T' locs' c' s' := ⟨Y, X.2.1, q1, q2, q3, Nat.le_trans X.hkk q4⟩
end Sd
section Steps
variable {Z : State} {n0 kk : Nat} {code : ByteArray} {ml : Nat} {own nm : String} {ret : Option FieldType} {h : Heap} {p : Program} {l : Launch} {e : Env} {R : Room} {s : State} {m : MethodId} {args : Array Value} {below : List Frame} {meth : Method} {c : Code} {T : State} {locs : List Loc} {cells slots : Nat} {P : State → Outcome → Prop} {a0 : Array Value} {pc pc' : Nat} {L : Array Slot} {S : List Value}
theorem w_iloadN (X : Sd Z n0 kk code ml own nm ret h p l e R s m args below meth c T locs cells slots) {k : Fin 4} {v : Int32} (hd : Dc code pc (.iload_n k) 1 pc') (hl : L[k.val]? = some (.val (.int v))) (K : Wp p e below P (T.setTop (mkF m pc' L (.int v :: S)))) : Wp p e below P (T.setTop (mkF m pc L S)) := by
  obtain ⟨hd, rfl⟩ := hd
  exact Wp.of (fun _ k => XS.iloadN X.st.here X.hx rfl (X.hb hd) hl k) K
theorem w_iload (X : Sd Z n0 kk code ml own nm ret h p l e R s m args below meth c T locs cells slots) {k : Nat} {v : Int32} (hd : Dc code pc (.iload k) 2 pc') (hl : L[k]? = some (.val (.int v))) (K : Wp p e below P (T.setTop (mkF m pc' L (.int v :: S)))) : Wp p e below P (T.setTop (mkF m pc L S)) := by
  obtain ⟨hd, rfl⟩ := hd
  exact Wp.of (fun _ k => XS.iload X.st.here X.hx rfl (X.hb hd) hl k) K
theorem w_aloadN (X : Sd Z n0 kk code ml own nm ret h p l e R s m args below meth c T locs cells slots) {k : Fin 4} {v : Value} (hd : Dc code pc (.aload_n k) 1 pc') (hl : L[k.val]? = some (.val v)) (hv : v.isRef = true) (K : Wp p e below P (T.setTop (mkF m pc' L (v :: S)))) : Wp p e below P (T.setTop (mkF m pc L S)) := by
  obtain ⟨hd, rfl⟩ := hd
  exact Wp.of (fun _ k => XS.aloadN X.st.here X.hx rfl (X.hb hd) hl hv k) K
theorem w_aload (X : Sd Z n0 kk code ml own nm ret h p l e R s m args below meth c T locs cells slots) {k : Nat} {v : Value} (hd : Dc code pc (.aload k) 2 pc') (hl : L[k]? = some (.val v)) (hv : v.isRef = true) (K : Wp p e below P (T.setTop (mkF m pc' L (v :: S)))) : Wp p e below P (T.setTop (mkF m pc L S)) := by
  obtain ⟨hd, rfl⟩ := hd
  exact Wp.of (fun _ k => XS.aload X.st.here X.hx rfl (X.hb hd) hl hv k) K
theorem w_istoreN (X : Sd Z n0 kk code ml own nm ret h p l e R s m args below meth c T locs cells slots) {k : Fin 4} {v : Int32} (L' : Array Slot) (hd : Dc code pc (.istore_n k) 1 pc') (hl : storeLocals L k.val (.int v) = some L') (K : Wp p e below P (T.setTop (mkF m pc' L' S))) : Wp p e below P (T.setTop (mkF m pc L (.int v :: S))) := by
  obtain ⟨hd, rfl⟩ := hd
  exact Wp.of (fun _ k => XS.istoreN X.st.here X.hx rfl (X.hb hd) rfl hl k) K
theorem w_istore (X : Sd Z n0 kk code ml own nm ret h p l e R s m args below meth c T locs cells slots) {k : Nat} {v : Int32} (L' : Array Slot) (hd : Dc code pc (.istore k) 2 pc') (hl : storeLocals L k (.int v) = some L') (K : Wp p e below P (T.setTop (mkF m pc' L' S))) : Wp p e below P (T.setTop (mkF m pc L (.int v :: S))) := by
  obtain ⟨hd, rfl⟩ := hd
  exact Wp.of (fun _ k => XS.istore X.st.here X.hx rfl (X.hb hd) rfl hl k) K
theorem w_astoreN (X : Sd Z n0 kk code ml own nm ret h p l e R s m args below meth c T locs cells slots) {k : Fin 4} {v : Value} (L' : Array Slot) (hd : Dc code pc (.astore_n k) 1 pc') (hv : v.isRef = true) (hl : storeLocals L k.val v = some L') (K : Wp p e below P (T.setTop (mkF m pc' L' S))) : Wp p e below P (T.setTop (mkF m pc L (v :: S))) := by
  obtain ⟨hd, rfl⟩ := hd
  exact Wp.of (fun _ k => XS.astoreN X.st.here X.hx rfl (X.hb hd) rfl hv hl k) K
theorem w_astore (X : Sd Z n0 kk code ml own nm ret h p l e R s m args below meth c T locs cells slots) {k : Nat} {v : Value} (L' : Array Slot) (hd : Dc code pc (.astore k) 2 pc') (hv : v.isRef = true) (hl : storeLocals L k v = some L') (K : Wp p e below P (T.setTop (mkF m pc' L' S))) : Wp p e below P (T.setTop (mkF m pc L (v :: S))) := by
  obtain ⟨hd, rfl⟩ := hd
  exact Wp.of (fun _ k => XS.astore X.st.here X.hx rfl (X.hb hd) rfl hv hl k) K
theorem w_iinc (X : Sd Z n0 kk code ml own nm ret h p l e R s m args below meth c T locs cells slots) {k : Nat} {q : Int} {v : Int32} (z : Int32) (L' : Array Slot) (hd : Dc code pc (.iinc k q) 3 pc') (hq : Int32.ofInt q = z) (hg : L[k]? = some (.val (.int v))) (hl : storeLocals L k (.int (v + z)) = some L') (K : Wp p e below P (T.setTop (mkF m pc' L' S))) : Wp p e below P (T.setTop (mkF m pc L S)) := by
  obtain ⟨hd, rfl⟩ := hd
  exact Wp.of (fun _ k => XS.iinc X.st.here X.hx rfl (X.hb hd) hg (hq ▸ hl) k) K
theorem w_iconst (X : Sd Z n0 kk code ml own nm ret h p l e R s m args below meth c T locs cells slots) {i : Int} (v : Int32) (hd : Dc code pc (.iconst i) 1 pc') (hv : Int32.ofInt i = v) (K : Wp p e below P (T.setTop (mkF m pc' L (.int v :: S)))) : Wp p e below P (T.setTop (mkF m pc L S)) := by
  obtain ⟨hd, rfl⟩ := hd
  exact Wp.of (fun _ k => XS.iconst X.st.here X.hx rfl (X.hb hd) (by rw [hv]; exact k)) K
theorem w_bipush (X : Sd Z n0 kk code ml own nm ret h p l e R s m args below meth c T locs cells slots) {i : Int} (v : Int32) (hd : Dc code pc (.bipush i) 2 pc') (hv : (Int8.ofInt i).toInt32 = v) (K : Wp p e below P (T.setTop (mkF m pc' L (.int v :: S)))) : Wp p e below P (T.setTop (mkF m pc L S)) := by
  obtain ⟨hd, rfl⟩ := hd
  exact Wp.of (fun _ k => XS.bipush X.st.here X.hx rfl (X.hb hd) (by rw [hv]; exact k)) K
theorem w_sipush (X : Sd Z n0 kk code ml own nm ret h p l e R s m args below meth c T locs cells slots) {i : Int} (v : Int32) (hd : Dc code pc (.sipush i) 3 pc') (hv : (Int16.ofInt i).toInt32 = v) (K : Wp p e below P (T.setTop (mkF m pc' L (.int v :: S)))) : Wp p e below P (T.setTop (mkF m pc L S)) := by
  obtain ⟨hd, rfl⟩ := hd
  exact Wp.of (fun _ k => XS.sipush X.st.here X.hx rfl (X.hb hd) (by rw [hv]; exact k)) K
theorem w_aconstNull (X : Sd Z n0 kk code ml own nm ret h p l e R s m args below meth c T locs cells slots)  (hd : Dc code pc (.aconst_null) 1 pc')  (K : Wp p e below P (T.setTop (mkF m pc' L (.null :: S)))) : Wp p e below P (T.setTop (mkF m pc L S)) := by
  obtain ⟨hd, rfl⟩ := hd
  exact Wp.of (fun _ k => XS.aconstNull X.st.here X.hx rfl (X.hb hd) k) K
theorem w_iadd (X : Sd Z n0 kk code ml own nm ret h p l e R s m args below meth c T locs cells slots) {x y : Int32} (hd : Dc code pc (.iadd) 1 pc')  (K : Wp p e below P (T.setTop (mkF m pc' L (.int (x + y) :: S)))) : Wp p e below P (T.setTop (mkF m pc L (.int y :: .int x :: S))) := by
  obtain ⟨hd, rfl⟩ := hd
  exact Wp.of (fun _ k => XS.iadd X.st.here X.hx rfl (X.hb hd) rfl k) K
theorem w_isub (X : Sd Z n0 kk code ml own nm ret h p l e R s m args below meth c T locs cells slots) {x y : Int32} (hd : Dc code pc (.isub) 1 pc')  (K : Wp p e below P (T.setTop (mkF m pc' L (.int (x - y) :: S)))) : Wp p e below P (T.setTop (mkF m pc L (.int y :: .int x :: S))) := by
  obtain ⟨hd, rfl⟩ := hd
  exact Wp.of (fun _ k => XS.isub X.st.here X.hx rfl (X.hb hd) rfl k) K
theorem w_imul (X : Sd Z n0 kk code ml own nm ret h p l e R s m args below meth c T locs cells slots) {x y : Int32} (hd : Dc code pc (.imul) 1 pc')  (K : Wp p e below P (T.setTop (mkF m pc' L (.int (x * y) :: S)))) : Wp p e below P (T.setTop (mkF m pc L (.int y :: .int x :: S))) := by
  obtain ⟨hd, rfl⟩ := hd
  exact Wp.of (fun _ k => XS.imul X.st.here X.hx rfl (X.hb hd) rfl k) K
theorem w_iand (X : Sd Z n0 kk code ml own nm ret h p l e R s m args below meth c T locs cells slots) {x y : Int32} (hd : Dc code pc (.iand) 1 pc')  (K : Wp p e below P (T.setTop (mkF m pc' L (.int (x &&& y) :: S)))) : Wp p e below P (T.setTop (mkF m pc L (.int y :: .int x :: S))) := by
  obtain ⟨hd, rfl⟩ := hd
  exact Wp.of (fun _ k => XS.iand X.st.here X.hx rfl (X.hb hd) rfl k) K
theorem w_ishl (X : Sd Z n0 kk code ml own nm ret h p l e R s m args below meth c T locs cells slots) {x y : Int32} (hd : Dc code pc (.ishl) 1 pc')  (K : Wp p e below P (T.setTop (mkF m pc' L (.int (x <<< (y &&& 31)) :: S)))) : Wp p e below P (T.setTop (mkF m pc L (.int y :: .int x :: S))) := by
  obtain ⟨hd, rfl⟩ := hd
  exact Wp.of (fun _ k => XS.ishl X.st.here X.hx rfl (X.hb hd) rfl k) K
theorem w_ishr (X : Sd Z n0 kk code ml own nm ret h p l e R s m args below meth c T locs cells slots) {x y : Int32} (hd : Dc code pc (.ishr) 1 pc')  (K : Wp p e below P (T.setTop (mkF m pc' L (.int (x >>> (y &&& 31)) :: S)))) : Wp p e below P (T.setTop (mkF m pc L (.int y :: .int x :: S))) := by
  obtain ⟨hd, rfl⟩ := hd
  exact Wp.of (fun _ k => XS.ishr X.st.here X.hx rfl (X.hb hd) rfl k) K
theorem w_iushr (X : Sd Z n0 kk code ml own nm ret h p l e R s m args below meth c T locs cells slots) {x y : Int32} (hd : Dc code pc (.iushr) 1 pc')  (K : Wp p e below P (T.setTop (mkF m pc' L (.int ((x.toUInt32 >>> (y &&& 31).toUInt32).toInt32) :: S)))) : Wp p e below P (T.setTop (mkF m pc L (.int y :: .int x :: S))) := by
  obtain ⟨hd, rfl⟩ := hd
  exact Wp.of (fun _ k => XS.iushr X.st.here X.hx rfl (X.hb hd) rfl k) K
theorem w_i2b (X : Sd Z n0 kk code ml own nm ret h p l e R s m args below meth c T locs cells slots) {x : Int32} (hd : Dc code pc (.i2b) 1 pc')  (K : Wp p e below P (T.setTop (mkF m pc' L (.int (x.toInt8.toInt32) :: S)))) : Wp p e below P (T.setTop (mkF m pc L (.int x :: S))) := by
  obtain ⟨hd, rfl⟩ := hd
  exact Wp.of (fun _ k => XS.i2b X.st.here X.hx rfl (X.hb hd) rfl k) K
theorem w_i2c (X : Sd Z n0 kk code ml own nm ret h p l e R s m args below meth c T locs cells slots) {x : Int32} (hd : Dc code pc (.i2c) 1 pc')  (K : Wp p e below P (T.setTop (mkF m pc' L (.int (x.toUInt32.toUInt16.toUInt32.toInt32) :: S)))) : Wp p e below P (T.setTop (mkF m pc L (.int x :: S))) := by
  obtain ⟨hd, rfl⟩ := hd
  exact Wp.of (fun _ k => XS.i2c X.st.here X.hx rfl (X.hb hd) rfl k) K
theorem w_dup (X : Sd Z n0 kk code ml own nm ret h p l e R s m args below meth c T locs cells slots) {x : Value} (hd : Dc code pc (.dup) 1 pc') (hc : x.category = 1) (K : Wp p e below P (T.setTop (mkF m pc' L (x :: x :: S)))) : Wp p e below P (T.setTop (mkF m pc L (x :: S))) := by
  obtain ⟨hd, rfl⟩ := hd
  exact Wp.of (fun _ k => XS.dup X.st.here X.hx rfl (X.hb hd) rfl hc k) K
theorem w_pop (X : Sd Z n0 kk code ml own nm ret h p l e R s m args below meth c T locs cells slots) {x : Value} (hd : Dc code pc (.pop) 1 pc') (hc : x.category = 1) (K : Wp p e below P (T.setTop (mkF m pc' L S))) : Wp p e below P (T.setTop (mkF m pc L (x :: S))) := by
  obtain ⟨hd, rfl⟩ := hd
  exact Wp.of (fun _ k => XS.pop X.st.here X.hx rfl (X.hb hd) rfl hc k) K
theorem w_goto (X : Sd Z n0 kk code ml own nm ret h p l e R s m args below meth c T locs cells slots) {t : Nat} (hd : Bc code pc .goto t pc') (K : Wp p e below P (T.setTop (mkF m t L S))) : Wp p e below P (T.setTop (mkF m pc L S)) := by
  obtain ⟨o, hd, h1, h2, -⟩ := hd
  exact Wp.of (fun _ k => XS.goto X.st.here X.hx rfl (pc0 := pc) rfl (X.hb hd) h1 h2 k) K
theorem w_ifeq (X : Sd Z n0 kk code ml own nm ret h p l e R s m args below meth c T locs cells slots) {x : Int32} {t : Nat} (hd : Bc code pc (.ifCond .eq) t pc') (K1 : x = 0 → Wp p e below P (T.setTop (mkF m t L S))) (K2 : ¬ x = 0 → Wp p e below P (T.setTop (mkF m pc' L S))) : Wp p e below P (T.setTop (mkF m pc L (.int x :: S))) := by
  obtain ⟨o, hd, h1, h2, rfl⟩ := hd
  by_cases q : ifCond.holds .eq x = true
  · exact Wp.of (fun _ k => XS.ifYes X.st.here X.hx rfl (pc0 := pc) rfl (X.hb hd) rfl q h1 h2 k) (K1 (by simpa [ifCond.holds, Int32.not_lt] using q))
  · exact Wp.of (fun _ k => XS.ifNo X.st.here X.hx rfl (X.hb hd) rfl (by simpa using q) k) (K2 (by simpa [ifCond.holds, Int32.not_lt] using q))
theorem w_icmpeq (X : Sd Z n0 kk code ml own nm ret h p l e R s m args below meth c T locs cells slots) {x y : Int32} {t : Nat} (hd : Bc code pc (.if_icmp .eq) t pc') (K1 : x = y → Wp p e below P (T.setTop (mkF m t L S))) (K2 : ¬ x = y → Wp p e below P (T.setTop (mkF m pc' L S))) : Wp p e below P (T.setTop (mkF m pc L (.int y :: .int x :: S))) := by
  obtain ⟨o, hd, h1, h2, rfl⟩ := hd
  by_cases q : if_icmp.holds .eq x y = true
  · exact Wp.of (fun _ k => XS.icmpYes X.st.here X.hx rfl (pc0 := pc) rfl (X.hb hd) rfl q h1 h2 k) (K1 (by simpa [if_icmp.holds, Int32.not_lt] using q))
  · exact Wp.of (fun _ k => XS.icmpNo X.st.here X.hx rfl (X.hb hd) rfl (by simpa using q) k) (K2 (by simpa [if_icmp.holds, Int32.not_lt] using q))
theorem w_ifne (X : Sd Z n0 kk code ml own nm ret h p l e R s m args below meth c T locs cells slots) {x : Int32} {t : Nat} (hd : Bc code pc (.ifCond .ne) t pc') (K1 : ¬ x = 0 → Wp p e below P (T.setTop (mkF m t L S))) (K2 : x = 0 → Wp p e below P (T.setTop (mkF m pc' L S))) : Wp p e below P (T.setTop (mkF m pc L (.int x :: S))) := by
  obtain ⟨o, hd, h1, h2, rfl⟩ := hd
  by_cases q : ifCond.holds .ne x = true
  · exact Wp.of (fun _ k => XS.ifYes X.st.here X.hx rfl (pc0 := pc) rfl (X.hb hd) rfl q h1 h2 k) (K1 (by simpa [ifCond.holds, Int32.not_lt] using q))
  · exact Wp.of (fun _ k => XS.ifNo X.st.here X.hx rfl (X.hb hd) rfl (by simpa using q) k) (K2 (by simpa [ifCond.holds, Int32.not_lt] using q))
theorem w_icmpne (X : Sd Z n0 kk code ml own nm ret h p l e R s m args below meth c T locs cells slots) {x y : Int32} {t : Nat} (hd : Bc code pc (.if_icmp .ne) t pc') (K1 : ¬ x = y → Wp p e below P (T.setTop (mkF m t L S))) (K2 : x = y → Wp p e below P (T.setTop (mkF m pc' L S))) : Wp p e below P (T.setTop (mkF m pc L (.int y :: .int x :: S))) := by
  obtain ⟨o, hd, h1, h2, rfl⟩ := hd
  by_cases q : if_icmp.holds .ne x y = true
  · exact Wp.of (fun _ k => XS.icmpYes X.st.here X.hx rfl (pc0 := pc) rfl (X.hb hd) rfl q h1 h2 k) (K1 (by simpa [if_icmp.holds, Int32.not_lt] using q))
  · exact Wp.of (fun _ k => XS.icmpNo X.st.here X.hx rfl (X.hb hd) rfl (by simpa using q) k) (K2 (by simpa [if_icmp.holds, Int32.not_lt] using q))
theorem w_iflt (X : Sd Z n0 kk code ml own nm ret h p l e R s m args below meth c T locs cells slots) {x : Int32} {t : Nat} (hd : Bc code pc (.ifCond .lt) t pc') (K1 : x < 0 → Wp p e below P (T.setTop (mkF m t L S))) (K2 : ¬ x < 0 → Wp p e below P (T.setTop (mkF m pc' L S))) : Wp p e below P (T.setTop (mkF m pc L (.int x :: S))) := by
  obtain ⟨o, hd, h1, h2, rfl⟩ := hd
  by_cases q : ifCond.holds .lt x = true
  · exact Wp.of (fun _ k => XS.ifYes X.st.here X.hx rfl (pc0 := pc) rfl (X.hb hd) rfl q h1 h2 k) (K1 (by simpa [ifCond.holds, Int32.not_lt] using q))
  · exact Wp.of (fun _ k => XS.ifNo X.st.here X.hx rfl (X.hb hd) rfl (by simpa using q) k) (K2 (by simpa [ifCond.holds, Int32.not_lt] using q))
theorem w_icmplt (X : Sd Z n0 kk code ml own nm ret h p l e R s m args below meth c T locs cells slots) {x y : Int32} {t : Nat} (hd : Bc code pc (.if_icmp .lt) t pc') (K1 : x < y → Wp p e below P (T.setTop (mkF m t L S))) (K2 : ¬ x < y → Wp p e below P (T.setTop (mkF m pc' L S))) : Wp p e below P (T.setTop (mkF m pc L (.int y :: .int x :: S))) := by
  obtain ⟨o, hd, h1, h2, rfl⟩ := hd
  by_cases q : if_icmp.holds .lt x y = true
  · exact Wp.of (fun _ k => XS.icmpYes X.st.here X.hx rfl (pc0 := pc) rfl (X.hb hd) rfl q h1 h2 k) (K1 (by simpa [if_icmp.holds, Int32.not_lt] using q))
  · exact Wp.of (fun _ k => XS.icmpNo X.st.here X.hx rfl (X.hb hd) rfl (by simpa using q) k) (K2 (by simpa [if_icmp.holds, Int32.not_lt] using q))
theorem w_icmpge (X : Sd Z n0 kk code ml own nm ret h p l e R s m args below meth c T locs cells slots) {x y : Int32} {t : Nat} (hd : Bc code pc (.if_icmp .ge) t pc') (K1 : ¬ x < y → Wp p e below P (T.setTop (mkF m t L S))) (K2 : x < y → Wp p e below P (T.setTop (mkF m pc' L S))) : Wp p e below P (T.setTop (mkF m pc L (.int y :: .int x :: S))) := by
  obtain ⟨o, hd, h1, h2, rfl⟩ := hd
  by_cases q : if_icmp.holds .ge x y = true
  · exact Wp.of (fun _ k => XS.icmpYes X.st.here X.hx rfl (pc0 := pc) rfl (X.hb hd) rfl q h1 h2 k) (K1 (by simpa [if_icmp.holds, Int32.not_lt] using q))
  · exact Wp.of (fun _ k => XS.icmpNo X.st.here X.hx rfl (X.hb hd) rfl (by simpa using q) k) (K2 (by simpa [if_icmp.holds, Int32.not_lt] using q))
theorem w_icmpgt (X : Sd Z n0 kk code ml own nm ret h p l e R s m args below meth c T locs cells slots) {x y : Int32} {t : Nat} (hd : Bc code pc (.if_icmp .gt) t pc') (K1 : y < x → Wp p e below P (T.setTop (mkF m t L S))) (K2 : ¬ y < x → Wp p e below P (T.setTop (mkF m pc' L S))) : Wp p e below P (T.setTop (mkF m pc L (.int y :: .int x :: S))) := by
  obtain ⟨o, hd, h1, h2, rfl⟩ := hd
  by_cases q : if_icmp.holds .gt x y = true
  · exact Wp.of (fun _ k => XS.icmpYes X.st.here X.hx rfl (pc0 := pc) rfl (X.hb hd) rfl q h1 h2 k) (K1 (by simpa [if_icmp.holds, Int32.not_lt] using q))
  · exact Wp.of (fun _ k => XS.icmpNo X.st.here X.hx rfl (X.hb hd) rfl (by simpa using q) k) (K2 (by simpa [if_icmp.holds, Int32.not_lt] using q))
theorem w_ifle (X : Sd Z n0 kk code ml own nm ret h p l e R s m args below meth c T locs cells slots) {x : Int32} {t : Nat} (hd : Bc code pc (.ifCond .le) t pc') (K1 : ¬ 0 < x → Wp p e below P (T.setTop (mkF m t L S))) (K2 : 0 < x → Wp p e below P (T.setTop (mkF m pc' L S))) : Wp p e below P (T.setTop (mkF m pc L (.int x :: S))) := by
  obtain ⟨o, hd, h1, h2, rfl⟩ := hd
  by_cases q : ifCond.holds .le x = true
  · exact Wp.of (fun _ k => XS.ifYes X.st.here X.hx rfl (pc0 := pc) rfl (X.hb hd) rfl q h1 h2 k) (K1 (by simpa [ifCond.holds, Int32.not_lt] using q))
  · exact Wp.of (fun _ k => XS.ifNo X.st.here X.hx rfl (X.hb hd) rfl (by simpa using q) k) (K2 (by simpa [ifCond.holds, Int32.not_lt] using q))
theorem w_icmple (X : Sd Z n0 kk code ml own nm ret h p l e R s m args below meth c T locs cells slots) {x y : Int32} {t : Nat} (hd : Bc code pc (.if_icmp .le) t pc') (K1 : ¬ y < x → Wp p e below P (T.setTop (mkF m t L S))) (K2 : y < x → Wp p e below P (T.setTop (mkF m pc' L S))) : Wp p e below P (T.setTop (mkF m pc L (.int y :: .int x :: S))) := by
  obtain ⟨o, hd, h1, h2, rfl⟩ := hd
  by_cases q : if_icmp.holds .le x y = true
  · exact Wp.of (fun _ k => XS.icmpYes X.st.here X.hx rfl (pc0 := pc) rfl (X.hb hd) rfl q h1 h2 k) (K1 (by simpa [if_icmp.holds, Int32.not_lt] using q))
  · exact Wp.of (fun _ k => XS.icmpNo X.st.here X.hx rfl (X.hb hd) rfl (by simpa using q) k) (K2 (by simpa [if_icmp.holds, Int32.not_lt] using q))
theorem w_ifnonnullT (X : Sd Z n0 kk code ml own nm ret h p l e R s m args below meth c T locs cells slots) {t : Nat} {a : Addr} (hd : Bc code pc .ifnonnull t pc') (K : Wp p e below P (T.setTop (mkF m t L S))) : Wp p e below P (T.setTop (mkF m pc L (.ref a :: S))) := by
  obtain ⟨o, hd, h1, h2, -⟩ := hd
  exact Wp.of (fun _ k => XS.ifnonnullYes X.st.here X.hx rfl (pc0 := pc) rfl (X.hb hd) rfl h1 h2 k) K
theorem w_ldcI (X : Sd Z n0 kk code ml own nm ret h p l e R s m args below meth c T locs cells slots) {i : Nat} {v : Int32} (hd : Dc code pc (.ldc i) 2 pc') (hw : (Cond.constant own i v).before a0 Z = true) (K : Wp p e below P (T.setTop (mkF m pc' L (.int v :: S)))) : Wp p e below P (T.setTop (mkF m pc L S)) := by
  obtain ⟨hd, rfl⟩ := hd
  exact Wp.of (fun _ k => X.st.ldcInt X.hx X.hown (mvT X.hZ hw) (g := mkF m pc L S) rfl (X.hb hd) _ k) K
end Steps
/-- what a contract says of the end -/
def Po (Z : State) (n0 : Nat) (s : State) (Q : Option Value → Heap → Prop) (ce sl : Nat) : State → Outcome → Prop := fun U o => ∃ v L, o = .returned v ∧ (Fr n0 L ∧ Old Z n0 U.heap ∧ s.heap.size ≤ U.heap.size ∧ Q v U.heap) ∧ FrameEnd s o U L ce sl
/-- called with these arguments at the heap h0, y returns and Q holds of what it returns and of the heap behind it -/
def Does (l : Launch) (Z : State) (n0 : Nat) (y : MethodName) (code : ByteArray) (ml : Nat) (ret : Option FieldType) (ws : List Cond) (rm : Room) (as' : Array Value) (h0 : Heap) (Q : Option Value → Heap → Prop) : Prop :=
  Old Z n0 h0 → MetFree l y (head1 (Cond.code y code ml ret :: ws) rm) (fun a U => a = as' ∧ Z.Warmed39 U.vm ∧ U.heap = h0) (fun _ _ _ _ _ => True) (fun _ U o U' => ∃ v L, o = .returned v ∧ (Fr n0 L ∧ Old Z n0 U'.heap ∧ h0.size ≤ U'.heap.size ∧ Q v U'.heap) ∧ FrameEnd U o U' L rm.cells rm.slots)
theorem Does.start {l : Launch} {Z : State} {n0 : Nat} {y : MethodName} {code : ByteArray} {ml : Nat} {ret : Option FieldType} {ws : List Cond} {rm : Room} {as' : Array Value} {h0 : Heap} {Q : Option Value → Heap → Prop} (hp : plainFor y = true)
    (body : ∀ p e s m below meth c s₁, Sd Z n0 0 code ml y.cls y.name ret h0 p l e rm s m as' below meth c s₁ [] 0 0 → Wp p e below (Po Z n0 s Q rm.cells rm.slots) (s₁.setTop (entryFrame m as' ml))) : Does l Z n0 y code ml ret ws rm as' h0 Q := by
  intro hold
  refine MetFree.of_bodySF hp hisR ?_
  intro p e s m args below meth c s₁ Bd hml0 hP hK
  obtain ⟨rfl, hZ, hh⟩ := hP
  have hh' := hh
  subst hh
  exact body p e s m below meth c s₁ ⟨Stand.of_body Bd, ⟨Bd.exec, Bd.bytes, hml0, findClass_of_methodNamed Bd.named, hZ, Bd.returns, (name_of_methodNamed Bd.named Bd.method).1, Bd.notSynchronized⟩, by rw [Bd.state]; rfl, Fr.nil n0, hold, Nat.zero_le _⟩
theorem Does.mono {l : Launch} {Z : State} {n0 : Nat} {y : MethodName} {code : ByteArray} {ml : Nat} {ret : Option FieldType} {ws : List Cond} {rm : Room} {as' : Array Value} {h0 : Heap} {Q Q' : Option Value → Heap → Prop} (D : Does l Z n0 y code ml ret ws rm as' h0 Q) (f : ∀ v h, Q v h → Q' v h) : Does l Z n0 y code ml ret ws rm as' h0 Q' := by
  intro hold p e ha hc hk s m args below hf happ hP hK
  obtain ⟨n, o, h1, h2, h3, v, L, e1, ⟨q1, q2, q2', q3⟩, q4⟩ := D hold p e ha hc hk s m args below hf happ hP hK
  exact ⟨n, o, h1, h2, h3, v, L, e1, ⟨q1, q2, q2', f _ _ q3⟩, q4⟩
section Steps2
variable {Z : State} {n0 kk : Nat} {code : ByteArray} {ml : Nat} {own nm : String} {ret : Option FieldType} {h : Heap} {p : Program} {l : Launch} {e : Env} {R : Room} {s : State} {m : MethodId} {args : Array Value} {below : List Frame} {meth : Method} {c : Code} {T : State} {locs : List Loc} {cells slots : Nat} {P : State → Outcome → Prop} {a0 : Array Value} {pc pc' : Nat} {L : Array Slot} {S : List Value} {Q : Option Value → Heap → Prop} {ce sl : Nat}
theorem Sd.done (X : Sd Z n0 kk code ml own nm ret h p l e R s m args below meth c T locs cells slots) {v : Option Value} (hv : ret = none → v = none) (hq : Q v h) (hc : cells ≤ ce) (hs : slots ≤ sl) {g : JFrame} (step : ∀ fs, (∀ (f : JFrame) (acts : List Action), f.method = m → f.locked = none → f.entered = [] → (doReturn e (T.setTop f) acts v).1 = T.setFrames fs) → Steps p.tables e below (T.setTop g) (T.setFrames fs)) : Wp p e below (Po Z n0 s Q ce sl) (T.setTop g) := by
  obtain ⟨fs, hr, hrun, hended, hW, hsame⟩ := X.st.leave (v := v) (fun q => hv (X.hret ▸ q)) X.hlk
  have e1 : (T.setFrames fs).heap = h := X.eh
  refine ⟨_, _, step fs hr, hrun, hended, v, locs, rfl, ⟨X.fr, ?_, X.st.same.2.1, ?_⟩, ⟨_, rfl⟩, hW, hsame.mono hc hs⟩
  · rw [e1]; exact X.old
  · rw [e1]; exact hq
theorem w_retI (X : Sd Z n0 kk code ml own nm (some .int) h p l e R s m args below meth c T locs cells slots) {z : Int32} (hd : Dc code pc .ireturn 1 pc') (hq : Q (some (.int z)) h) (hc : cells ≤ ce) (hs : slots ≤ sl) : Wp p e below (Po Z n0 s Q ce sl) (T.setTop (mkF m pc L (.int z :: S))) :=
  X.done nofun hq hc hs fun fs hr => retOut X.st X.hx X.hret rfl (Or.inl ⟨rfl, Or.inl rfl, z, rfl⟩) (X.hb hd.1) hr
theorem w_ret_boolean (X : Sd Z n0 kk code ml own nm (some .boolean) h p l e R s m args below meth c T locs cells slots) {z : Int32} (z' : Int32) (hz : nar .boolean z = z') (hd : Dc code pc .ireturn 1 pc') (hq : Q (some (.int z')) h) (hc : cells ≤ ce) (hs : slots ≤ sl) : Wp p e below (Po Z n0 s Q ce sl) (T.setTop (mkF m pc L (.int z :: S))) := by
  subst hz
  exact X.done nofun hq hc hs fun fs hr => retN X.st X.hx X.hret (by simp) (X.hb hd.1) hr
theorem w_ret_byte (X : Sd Z n0 kk code ml own nm (some .byte) h p l e R s m args below meth c T locs cells slots) {z : Int32} (z' : Int32) (hz : nar .byte z = z') (hd : Dc code pc .ireturn 1 pc') (hq : Q (some (.int z')) h) (hc : cells ≤ ce) (hs : slots ≤ sl) : Wp p e below (Po Z n0 s Q ce sl) (T.setTop (mkF m pc L (.int z :: S))) := by
  subst hz
  exact X.done nofun hq hc hs fun fs hr => retN X.st X.hx X.hret (by simp) (X.hb hd.1) hr
theorem w_ret_char (X : Sd Z n0 kk code ml own nm (some .char) h p l e R s m args below meth c T locs cells slots) {z : Int32} (z' : Int32) (hz : nar .char z = z') (hd : Dc code pc .ireturn 1 pc') (hq : Q (some (.int z')) h) (hc : cells ≤ ce) (hs : slots ≤ sl) : Wp p e below (Po Z n0 s Q ce sl) (T.setTop (mkF m pc L (.int z :: S))) := by
  subst hz
  exact X.done nofun hq hc hs fun fs hr => retN X.st X.hx X.hret (by simp) (X.hb hd.1) hr
theorem w_retR (X : Sd Z n0 kk code ml own nm ret h p l e R s m args below meth c T locs cells slots) {t : FieldType} {z : Value} (ht : t.isReference = true) (hz : z.isRef = true) (hret : ret = some t) (hd : Dc code pc .areturn 1 pc') (hq : Q (some z) h) (hc : cells ≤ ce) (hs : slots ≤ sl) : Wp p e below (Po Z n0 s Q ce sl) (T.setTop (mkF m pc L (z :: S))) := by
  subst hret
  exact X.done nofun hq hc hs fun fs hr => retOut X.st X.hx X.hret (by rcases ref_cases hz with rfl | ⟨z, rfl⟩ <;> cases t <;> first | rfl | cases ht) (Or.inr (Or.inr (Or.inr (Or.inr ⟨rfl, ht, hz⟩)))) (X.hb hd.1) hr
theorem w_retV (X : Sd Z n0 kk code ml own nm (none) h p l e R s m args below meth c T locs cells slots) (hd : Dc code pc .return_ 1 pc') (hq : Q none h) (hc : cells ≤ ce) (hs : slots ≤ sl) : Wp p e below (Po Z n0 s Q ce sl) (T.setTop (mkF m pc L [])) :=
  X.done (fun _ => rfl) hq hc hs fun fs hr => X.st.returnOut X.hx X.hret (X.hb hd.1) hr
theorem w_getF (X : Sd Z n0 kk code ml own nm ret h p l e R s m args below meth c T locs cells slots) {R0 O n d host : String} {index : Nat} {a : Addr} {v : Value} (hd : Dc code pc (.getfield index) 3 pc') (w : (Cond.fieldLink own index R0 n d).before a0 Z = true ∨ (Cond.fieldLinkNest own index R0 n d host).before a0 Z = true) (via : Via Z R0 O n d) (F : Fld Z h a O n d v) (K : ∀ T', Sd Z n0 kk code ml own nm ret h p l e R s m args below meth c T' locs cells slots → Wp p e below P (T'.setTop (mkF m pc' L (v :: S)))) : Wp p e below P (T.setTop (mkF m pc L (.ref a :: S))) := by
  obtain ⟨hd, rfl⟩ := hd
  obtain ⟨T', X', e', st⟩ := getF X.st X.hx X.hZ X.hown w via X.eh F (g := mkF m pc L (.ref a :: S)) rfl rfl (X.hb hd)
  exact Wp.of st (K T' (X.mk' X' e' X.fr X.old (Nat.le_refl _)))
theorem w_getS (X : Sd Z n0 kk code ml own nm ret h p l e R s m args below meth c T locs cells slots) {R0 O n d host : String} {index : Nat} {v : Value} (hd : Dc code pc (.getstatic index) 3 pc') (w : (Cond.fieldLink own index R0 n d).before a0 Z = true ∨ (Cond.fieldLinkNest own index R0 n d host).before a0 Z = true) (via : Via Z R0 O n d) (F : Sta Z h O n d v) (K : ∀ T', Sd Z n0 kk code ml own nm ret h p l e R s m args below meth c T' locs cells slots → Wp p e below P (T'.setTop (mkF m pc' L (v :: S)))) : Wp p e below P (T.setTop (mkF m pc L S)) := by
  obtain ⟨hd, rfl⟩ := hd
  obtain ⟨T', X', e', st⟩ := getS2 X.st X.hx X.hZ X.hown w via X.eh F (g := mkF m pc L S) rfl (X.hb hd)
  exact Wp.of st (K T' (X.mk' X' e' X.fr X.old (Nat.le_refl _)))
theorem w_putF (X : Sd Z n0 kk code ml own nm ret h p l e R s m args below meth c T locs cells slots) {R0 O n d host C : String} {index ni : Nat} {ty : FieldType} {a : Addr} {v old : Value} (hd : Dc code pc (.putfield index) 3 pc')  (w : (Cond.fieldLink own index R0 n d).before a0 Z = true ∨ (Cond.fieldLinkNest own index R0 n d host).before a0 Z = true) (via : Via Z R0 O n d) (F : Fld Z h a O n d old) (E : Exa Z h a C) (L0 : (Cond.lays C O n d).before a0 Z = true ∨ ((Cond.laysFinal C O n d).before a0 Z = true ∧ own = O ∧ nm = "<init>")) (wi : (Cond.instantiable C ni).before a0 Z = true) (hty : parseFieldDescriptor d = some ty) (hn : narrow ty v = v) (hf : fits ty v = true) (ga : n0 ≤ a) (K : ∀ T' h', Sd Z n0 kk code ml own nm ret h' p l e R s m args below meth c T' (locs ++ [⟨a, slotOf Z O n d⟩]) cells slots → Wr h h' a (slotOf Z O n d) v → Wp p e below P (T'.setTop (mkF m pc' L S))) : Wp p e below P (T.setTop (mkF m pc L (v :: .ref a :: S))) := by
  obtain ⟨hd, rfl⟩ := hd
  obtain ⟨T', h', X', e', W, st⟩ := putF X.st X.hx X.hZ X.hown w via X.eh F E (L0.imp id fun q => ⟨q.1, q.2.1, X.hnm.trans q.2.2⟩) wi hty hn hf (g := mkF m pc L (v :: .ref a :: S)) rfl rfl (X.hb hd)
  exact Wp.of st (K T' h' (X.mk' X' e' (Fr.snoc X' X.fr ga) (X.old.wr W ga) (Nat.le_of_eq W.size.symm)) W)
theorem w_putFN (X : Sd Z n0 kk code ml own nm ret h p l e R s m args below meth c T locs cells slots) {R0 O n d C : String} {index ni : Nat} {ty : FieldType} {a : Addr} {v old : Value} (hd : Dc code pc (.putfield index) 3 pc')  (w : (Cond.fieldLink own index R0 n d).before a0 Z = true) (via : Via Z R0 O n d) (F : Fld Z h a O n d old) (E : Exa Z h a C) (L0 : (Cond.lays C O n d).before a0 Z = true ∨ ((Cond.laysFinal C O n d).before a0 Z = true ∧ own = O ∧ nm = "<init>")) (wi : (Cond.instantiable C ni).before a0 Z = true) (hty : parseFieldDescriptor d = some ty) (v' : Value) (hn : narrow ty v = v') (hf : fits ty v' = true) (ga : n0 ≤ a) (K : ∀ T' h', Sd Z n0 kk code ml own nm ret h' p l e R s m args below meth c T' (locs ++ [⟨a, slotOf Z O n d⟩]) cells slots → Wr h h' a (slotOf Z O n d) v' → Wp p e below P (T'.setTop (mkF m pc' L S))) : Wp p e below P (T.setTop (mkF m pc L (v :: .ref a :: S))) := by
  obtain ⟨hd, rfl⟩ := hd
  obtain ⟨T', h', X', e', W, st⟩ := putFN X.st X.hx X.hZ X.hown w via X.eh F E (L0.imp id fun q => ⟨q.1, q.2.1, X.hnm.trans q.2.2⟩) wi hty hn hf (g := mkF m pc L (v :: .ref a :: S)) rfl rfl (X.hb hd)
  exact Wp.of st (K T' h' (X.mk' X' e' (Fr.snoc X' X.fr ga) (X.old.wr W ga) (Nat.le_of_eq W.size.symm)) W)
theorem w_new (X : Sd Z n0 kk code ml own nm ret h p l e R s m args below meth c T locs cells slots) {C : String} {index n : Nat} (hd : Dc code pc (.new index) 3 pc') (w1 : (Cond.classLink own index C).before a0 Z = true) (wi : (Cond.instantiable C n).before a0 Z = true) (wz : (Cond.initialized C).before a0 Z = true) (hc : cells + 1 ≤ R.cells) (hl : slots + n ≤ R.slots) (K : ∀ T' h' b, b = h.size → n0 ≤ b → Sd Z n0 kk code ml own nm ret h' p l e R s m args below meth c T' locs (cells + 1) (slots + n) → Ext h h' → Exa Z h' b C → (∀ {O nm' d : String} {ty : FieldType}, Laid Z a0 C O nm' d → parseFieldDescriptor d = some ty → Fld Z h' b O nm' d (defaultValue ty)) → Wp p e below P (T'.setTop (mkF m pc' L (.ref b :: S)))) : Wp p e below P (T.setTop (mkF m pc L S)) := by
  obtain ⟨hd, rfl⟩ := hd
  obtain ⟨T', h', X', e', E, A, D, -, st⟩ := newO X.st X.hx X.hZ X.hown w1 wi wz X.eh (g := mkF m pc L S) rfl (X.hb hd) hc hl
  exact Wp.of st (K T' h' _ rfl (X.old.1 ▸ X.old.2.1) (X.mk' X' e' X.fr (X.old.ext E) E.1) E A D)
theorem w_initO (X : Sd Z n0 kk code ml own nm ret h p l e R s m args below meth c T locs cells slots) {index : Nat} {a : Addr} (hd : Dc code pc (.invokespecial index) 3 pc') (w1 : (Cond.methodLink own index Lib.objectInit).before a0 Z = true) (w2 : (Cond.instanceMethod Lib.objectInit).before a0 Z = true) (w3 : (Cond.code Lib.objectInit ⟨#[0xb1]⟩ 1 none).before a0 Z = true) (hsz : L.size = ml) (hf : 1 ≤ R.frames) (hl : (S.map fun v => v.category).sum + 12 ≤ R.locals) (K : ∀ T', Sd Z n0 kk code ml own nm ret h p l e R s m args below meth c T' locs cells slots → Wp p e below P (T'.setTop (mkF m pc' L S))) : Wp p e below P (T.setTop (mkF m pc L (.ref a :: S))) := by
  obtain ⟨hd, rfl⟩ := hd
  obtain ⟨T', X', e', st⟩ := initO X.st X.hx X.hZ X.hown w1 w2 w3 X.eh (g := mkF m pc L (.ref a :: S)) rfl (by rw [X.hml]; exact hsz) rfl (X.hb hd) hf (W := (S.map fun v => v.category).sum) (by show 2 * 0 + _ ≤ _; omega) hl
  exact Wp.of st (K T' (X.mk' X' e' X.fr X.old (Nat.le_refl _)))
theorem w_callS (X : Sd Z n0 kk code ml own nm ret h p l e R s m args below meth c T locs cells slots) {y : MethodName} {bytes : ByteArray} {maxL : Nat} {ret' : Option FieldType} {rm : Room} {index : Nat} {Q' : Option Value → Heap → Prop} {ps : List FieldType} {rr : Option FieldType} {stk : List Value} (hd : Dc code pc (.invokestatic index) 3 pc') (w1 : (Cond.methodLink own index y).before a0 Z = true) (w2 : (Cond.static y).before a0 Z = true) (w3 : (Cond.initialized y.cls).before a0 Z = true) (w4 : (Cond.code y bytes maxL ret').before a0 Z = true) (hy : y.cls ≠ "java/lang/invoke/MethodHandle" ∧ y.cls ≠ "java/lang/invoke/VarHandle") {argsL : List Value} (D : Does l Z n0 y bytes maxL ret' [] rm argsL.toArray h Q') (hpd : parseMethodDescriptor y.desc = some ⟨ps, rr⟩) (hlen : argsL.length = ps.length) (hst : stk = argsL.reverse ++ S) (hsz : L.size = ml) (hf : rm.frames + 1 ≤ R.frames) (hl : (S.map fun v => v.category).sum + (maxL + 11) + rm.locals ≤ R.locals) (hc : cells + rm.cells ≤ R.cells) (hs : slots + rm.slots ≤ R.slots) (K : ∀ T' h' v L', Sd Z n0 kk code ml own nm ret h' p l e R s m args below meth c T' (locs ++ L') (cells + rm.cells) (slots + rm.slots) → Q' v h' → Wp p e below P (T'.setTop (mkF m pc' L (v.toList ++ S)))) : Wp p e below P (T.setTop (mkF m pc L stk)) := by
  obtain ⟨hd, rfl⟩ := hd
  obtain ⟨v, vm1, ⟨T', L1, k1, n1⟩, -, X', ⟨Lc, hQ, l1, y1, z1⟩, st⟩ := Jvm.LawKit.callS X.st X.hx X.hown (mvT X.hZ w1) (mvT X.hZ w2) (mvT X.hZ w3) (mvT X.hZ w4) hy (backOf (Q := fun v h' L => Fr n0 L ∧ Old Z n0 h' ∧ h.size ≤ h'.size ∧ Q' v h') (W := (S.map fun v => v.category).sum) (D X.old) X.hZ w4 w3 hf hl) (g := mkF m pc L stk) rfl (by rw [X.hml]; exact hsz) (argsL := argsL) (rest := S) (lenOf hpd hlen) hst (by show 2 * 0 + _ ≤ _; omega) (X.hb hd) (fun _ _ => ⟨rfl, X.eh, hc, hs⟩)
  dsimp only [Pt.U, Pt.locs, Pt.cells, Pt.slots] at X' l1 y1 z1 st hQ
  subst l1 y1 z1
  exact Wp.of st (K T' _ v Lc (X.mk' X' rfl (X.fr.app hQ.1) hQ.2.1 hQ.2.2.1) hQ.2.2.2)
theorem w_callI (X : Sd Z n0 kk code ml own nm ret h p l e R s m args below meth c T locs cells slots) {y : MethodName} {bytes : ByteArray} {maxL : Nat} {rm : Room} {index : Nat} {Q' : Option Value → Heap → Prop} {ps : List FieldType} {rr : Option FieldType} {stk : List Value} (hd : Dc code pc (.invokespecial index) 3 pc') (hi : y.name = "<init>") (w1 : (Cond.methodLink own index y).before a0 Z = true) (w2 : (Cond.instanceMethod y).before a0 Z = true) (w3 : (Cond.initialized y.cls).before a0 Z = true) (w4 : (Cond.code y bytes maxL none).before a0 Z = true) (hy : y.cls ≠ "java/lang/invoke/MethodHandle" ∧ y.cls ≠ "java/lang/invoke/VarHandle") {a : Addr} {argsL : List Value} (D : Does l Z n0 y bytes maxL none [] rm (.ref a :: argsL).toArray h Q') (hpd : parseMethodDescriptor y.desc = some ⟨ps, rr⟩) (hlen : argsL.length = ps.length) (hst : stk = argsL.reverse ++ .ref a :: S) (hsz : L.size = ml) (hf : rm.frames + 1 ≤ R.frames) (hl : (S.map fun v => v.category).sum + (maxL + 11) + rm.locals ≤ R.locals) (hc : cells + rm.cells ≤ R.cells) (hs : slots + rm.slots ≤ R.slots) (K : ∀ T' h' v L', Sd Z n0 kk code ml own nm ret h' p l e R s m args below meth c T' (locs ++ L') (cells + rm.cells) (slots + rm.slots) → Q' v h' → Wp p e below P (T'.setTop (mkF m pc' L (v.toList ++ S)))) : Wp p e below P (T.setTop (mkF m pc L stk)) := by
  obtain ⟨hd, rfl⟩ := hd
  obtain ⟨v, vm1, ⟨T', L1, k1, n1⟩, -, X', ⟨Lc, hQ, l1, y1, z1⟩, st⟩ := X.st.specialBack X.hx hi X.hown (mvT X.hZ w1) (mvT X.hZ w2) (mvT X.hZ w4) hy (backOf (Q := fun v h' L => Fr n0 L ∧ Old Z n0 h' ∧ h.size ≤ h'.size ∧ Q' v h') (W := (S.map fun v => v.category).sum) (D X.old) X.hZ w4 w3 hf hl) (g := mkF m pc L stk) rfl (by rw [X.hml]; exact hsz) (Steps.refl _) (a := a) (argsL := argsL) (rest := S) (lenOf hpd hlen) hst (by show 2 * 0 + _ ≤ _; omega) (X.hb hd) (fun _ _ => ⟨rfl, X.eh, hc, hs⟩)
  dsimp only [Pt.U, Pt.locs, Pt.cells, Pt.slots] at X' l1 y1 z1 st hQ
  subst l1 y1 z1
  exact Wp.tr st (K T' _ v Lc (X.mk' X' rfl (X.fr.app hQ.1) hQ.2.1 hQ.2.2.1) hQ.2.2.2)
theorem w_callV (X : Sd Z n0 kk code ml own nm ret h p l e R s m args below meth c T locs cells slots) {y : MethodName} {bytes : ByteArray} {maxL : Nat} {ret' : Option FieldType} {rm : Room} {index : Nat} {Q' : Option Value → Heap → Prop} {ps : List FieldType} {rr : Option FieldType} {stk : List Value} {z : MethodName} {C : String} (hd : Dc code pc (.invokevirtual index) 3 pc') (w1 : (Cond.methodLink own index y).before a0 Z = true) (wd : (Cond.declares y).before a0 Z = true) (hnf : NotFace s y) (ws : (Cond.selects C y z).before a0 Z = true) (w2 : (Cond.instanceMethod z).before a0 Z = true) (w3 : (Cond.initialized z.cls).before a0 Z = true) (w4 : (Cond.code z bytes maxL ret').before a0 Z = true) (hy : y.cls ≠ "java/lang/invoke/MethodHandle" ∧ y.cls ≠ "java/lang/invoke/VarHandle") {a : Addr} (E : Exa Z h a C) {argsL : List Value} (D : Does l Z n0 z bytes maxL ret' [] rm (.ref a :: argsL).toArray h Q') (hpd : parseMethodDescriptor y.desc = some ⟨ps, rr⟩) (hlen : argsL.length = ps.length) (hst : stk = argsL.reverse ++ .ref a :: S) (hsz : L.size = ml) (hf : rm.frames + 1 ≤ R.frames) (hl : (S.map fun v => v.category).sum + (maxL + 11) + rm.locals ≤ R.locals) (hc : cells + rm.cells ≤ R.cells) (hs : slots + rm.slots ≤ R.slots) (K : ∀ T' h' v L', Sd Z n0 kk code ml own nm ret h' p l e R s m args below meth c T' (locs ++ L') (cells + rm.cells) (slots + rm.slots) → Q' v h' → Wp p e below P (T'.setTop (mkF m pc' L (v.toList ++ S)))) : Wp p e below P (T.setTop (mkF m pc L stk)) := by
  obtain ⟨hd, rfl⟩ := hd
  obtain ⟨cq, kq, qa, qb, qc⟩ := isOf X.hZ X.eh E
  obtain ⟨v, vm1, ⟨T', L1, k1, n1⟩, -, X', ⟨Lc, hQ, l1, y1, z1⟩, st⟩ := X.st.virtualBack X.hx X.hown (mvT X.hZ w1) (mvT X.hZ wd) hnf (mvT X.hZ ws) (mvT X.hZ w2) hy (backOf (Q := fun v h' L => Fr n0 L ∧ Old Z n0 h' ∧ h.size ≤ h'.size ∧ Q' v h') (W := (S.map fun v => v.category).sum) (D X.old) X.hZ w4 w3 hf hl) qa qc (g := mkF m pc L stk) rfl (by rw [X.hml]; exact hsz) (Steps.refl _) (argsL := argsL) (rest := S) (lenOf hpd hlen) hst (by show 2 * 0 + _ ≤ _; omega) (X.hb hd) (fun _ _ => ⟨rfl, X.eh, hc, hs⟩)
  dsimp only [Pt.U, Pt.locs, Pt.cells, Pt.slots] at X' l1 y1 z1 st hQ
  subst l1 y1 z1
  exact Wp.tr st (K T' _ v Lc (X.mk' X' rfl (X.fr.app hQ.1) hQ.2.1 hQ.2.2.1) hQ.2.2.2)
theorem w_callP (X : Sd Z n0 kk code ml own nm ret h p l e R s m args below meth c T locs cells slots) {y : MethodName} {bytes : ByteArray} {maxL : Nat} {ret' : Option FieldType} {rm : Room} {index : Nat} {Q' : Option Value → Heap → Prop} {ps : List FieldType} {rr : Option FieldType} {stk : List Value} (hd : Dc code pc (.invokevirtual index) 3 pc') (w1 : (Cond.methodLink own index y).before a0 Z = true) (w2 : (Cond.instanceMethod y).before a0 Z = true) (ws : (Cond.selects y.cls y y).before a0 Z = true) (wp : (Cond.privateMethod y).before a0 Z = true) (w3 : (Cond.initialized y.cls).before a0 Z = true) (w4 : (Cond.code y bytes maxL ret').before a0 Z = true) (hy : y.cls ≠ "java/lang/invoke/MethodHandle" ∧ y.cls ≠ "java/lang/invoke/VarHandle") {a : Addr} {C : String} (E : Exa Z h a C) {argsL : List Value} (D : Does l Z n0 y bytes maxL ret' [] rm (.ref a :: argsL).toArray h Q') (hpd : parseMethodDescriptor y.desc = some ⟨ps, rr⟩) (hlen : argsL.length = ps.length) (hst : stk = argsL.reverse ++ .ref a :: S) (hsz : L.size = ml) (hf : rm.frames + 1 ≤ R.frames) (hl : (S.map fun v => v.category).sum + (maxL + 11) + rm.locals ≤ R.locals) (hc : cells + rm.cells ≤ R.cells) (hs : slots + rm.slots ≤ R.slots) (K : ∀ T' h' v L', Sd Z n0 kk code ml own nm ret h' p l e R s m args below meth c T' (locs ++ L') (cells + rm.cells) (slots + rm.slots) → Q' v h' → Wp p e below P (T'.setTop (mkF m pc' L (v.toList ++ S)))) : Wp p e below P (T.setTop (mkF m pc L stk)) := by
  obtain ⟨hd, rfl⟩ := hd
  obtain ⟨cq, qa, qb⟩ := E.cell
  obtain ⟨v, vm1, ⟨T', L1, k1, n1⟩, -, X', ⟨Lc, hQ, l1, y1, z1⟩, st⟩ := X.st.privateBack X.hx X.hown (mvT X.hZ w1) (mvT X.hZ w2) (mvT X.hZ ws) (Cond.privateMethod_at (mvP X.hZ wp (args := #[]))) (mvT X.hZ w4) hy (backOf (Q := fun v h' L => Fr n0 L ∧ Old Z n0 h' ∧ h.size ≤ h'.size ∧ Q' v h') (W := (S.map fun v => v.category).sum) (D X.old) X.hZ w4 w3 hf hl) (g := mkF m pc L stk) rfl (by rw [X.hml]; exact hsz) (Steps.refl _) (a := a) (by rw [X.eh]; exact qa) qb (argsL := argsL) (rest := S) (lenOf hpd hlen) hst (by show 2 * 0 + _ ≤ _; omega) (X.hb hd) (fun _ _ => ⟨rfl, X.eh, hc, hs⟩)
  dsimp only [Pt.U, Pt.locs, Pt.cells, Pt.slots] at X' l1 y1 z1 st hQ
  subst l1 y1 z1
  exact Wp.tr st (K T' _ v Lc (X.mk' X' rfl (X.fr.app hQ.1) hQ.2.1 hQ.2.2.1) hQ.2.2.2)
theorem w_callU (X : Sd Z n0 kk code ml own nm ret h p l e R s m args below meth c T locs cells slots) {y : MethodName} {bytes : ByteArray} {maxL : Nat} {ret' : Option FieldType} {rm : Room} {index : Nat} {Q' : Option Value → Heap → Prop} {ps : List FieldType} {rr : Option FieldType} {stk : List Value} {z : MethodName} {C owner : String} (hd : Dc code pc (.invokevirtual index) 3 pc') (w1 : (Cond.methodLink own index y).before a0 Z = true) (wsm : (Cond.sameMethod y.cls owner y.name y.desc).before a0 Z = true) (wd : (Cond.declares ⟨owner, y.name, y.desc⟩).before a0 Z = true) (ho : owner ≠ "java/lang/invoke/MethodHandle" ∧ owner ≠ "java/lang/invoke/VarHandle") (ws : (Cond.selects C y z).before a0 Z = true) (w2 : (Cond.instanceMethod z).before a0 Z = true) (w3 : (Cond.initialized z.cls).before a0 Z = true) (w4 : (Cond.code z bytes maxL ret').before a0 Z = true) {a : Addr} (E : Exa Z h a C) {argsL : List Value} (D : Does l Z n0 z bytes maxL ret' [] rm (.ref a :: argsL).toArray h Q') (hpd : parseMethodDescriptor y.desc = some ⟨ps, rr⟩) (hlen : argsL.length = ps.length) (hst : stk = argsL.reverse ++ .ref a :: S) (hsz : L.size = ml) (hf : rm.frames + 1 ≤ R.frames) (hl : (S.map fun v => v.category).sum + (maxL + 11) + rm.locals ≤ R.locals) (hc : cells + rm.cells ≤ R.cells) (hs : slots + rm.slots ≤ R.slots) (K : ∀ T' h' v L', Sd Z n0 kk code ml own nm ret h' p l e R s m args below meth c T' (locs ++ L') (cells + rm.cells) (slots + rm.slots) → Q' v h' → Wp p e below P (T'.setTop (mkF m pc' L (v.toList ++ S)))) : Wp p e below P (T.setTop (mkF m pc L stk)) := by
  obtain ⟨hd, rfl⟩ := hd
  obtain ⟨cq, kq, qa, qb, qc⟩ := isOf X.hZ X.eh E
  obtain ⟨v, vm1, ⟨T', L1, k1, n1⟩, -, X', ⟨Lc, hQ, l1, y1, z1⟩, st⟩ := X.st.virtualBackUp X.hx X.hown (mvT X.hZ w1) (mvT X.hZ wsm) (mvT X.hZ wd) ho (mvT X.hZ ws) (mvT X.hZ w2) (backOf (Q := fun v h' L => Fr n0 L ∧ Old Z n0 h' ∧ h.size ≤ h'.size ∧ Q' v h') (W := (S.map fun v => v.category).sum) (D X.old) X.hZ w4 w3 hf hl) qa qc (g := mkF m pc L stk) rfl (by rw [X.hml]; exact hsz) (Steps.refl _) (argsL := argsL) (rest := S) (lenOf hpd hlen) hst (by show 2 * 0 + _ ≤ _; omega) (X.hb hd) (fun _ _ => ⟨rfl, X.eh, hc, hs⟩)
  dsimp only [Pt.U, Pt.locs, Pt.cells, Pt.slots] at X' l1 y1 z1 st hQ
  subst l1 y1 z1
  exact Wp.tr st (K T' _ v Lc (X.mk' X' rfl (X.fr.app hQ.1) hQ.2.1 hQ.2.2.1) hQ.2.2.2)
end Steps2
end Jvm.RoadKit
namespace Jvm.RoadKit
open Sem ClassFile Op Lib Jvm.Stand Jvm.Free Jvm.LawKit
/-- at a lies an array of component type ty that holds just these values -/
def Ary (Z : State) (h : Heap) (a : Addr) (ty : FieldType) (vs : List Value) : Prop := ∃ c : Cell, Arr Z h a c ty ∧ c.slots = vs.toArray ∧ vs.length < 2 ^ 31 ∧ ∀ v ∈ vs, fits ty v = true
section Ary
variable {Z : State} {h h' : Heap} {a b : Addr} {ty : FieldType} {vs : List Value} {sl : Nat} {v : Value} {ws : List Addr}
theorem Ary.lt (A : Ary Z h a ty vs) : a < h.size := by obtain ⟨c, A, -⟩ := A; exact A.lt
theorem Ary.ext (A : Ary Z h a ty vs) (E : Ext h h') : Ary Z h' a ty vs := by obtain ⟨c, A, r⟩ := A; exact ⟨c, A.ext E, r⟩
theorem Ary.other (A : Ary Z h b ty vs) (W : Wr h h' a sl v) (q : b ≠ a) : Ary Z h' b ty vs := by obtain ⟨c, A, r⟩ := A; exact ⟨c, A.other W q, r⟩
theorem Ary.keep (A : Ary Z h a ty vs) (K : Keep h h' ws) (q : a ∉ ws) : Ary Z h' a ty vs := by obtain ⟨c, A, r⟩ := A; exact ⟨c, ⟨K.2.1 a c A.1 q, A.2⟩, r⟩
theorem Ary.set (A : Ary Z h a ty vs) {j : Nat} (hf : fits ty v = true) (W : Wr h h' a j v) : Ary Z h' a ty (vs.set j v) := by
  obtain ⟨c, A, e, l, f⟩ := A
  refine ⟨c.setSlot j v, A.same W, ?_, by rw [List.length_set]; exact l, fun u hu => ?_⟩
  · show c.slots.setIfInBounds j v = _
    rw [e]; simp
  · rcases List.mem_or_eq_of_mem_set hu with q | rfl
    · exact f _ q
    · exact hf
theorem Ary.size {c : Cell} (e : c.slots = vs.toArray) : c.slots.size = vs.length := by rw [e]; simp
theorem own_inb {c : Cell} {j : Int32} (e : c.slots = vs.toArray) (hj : ¬ j < 0) (hv : vs[j.toNatClampNeg]? = some v) : ¬ (j < 0 ∨ c.slots.size ≤ j.toNatClampNeg) := by
  rw [Ary.size e]
  have := (List.getElem?_eq_some_iff.mp hv).1
  rintro (q | q)
  · exact hj q
  · omega
theorem own_at {c : Cell} {j : Nat} (e : c.slots = vs.toArray) (hv : vs[j]? = some v) : c.slots[j]? = some v := by rw [e]; simpa using hv
theorem Ary.new {cA : ClassId} {n : Int32} {k : Nat} (A : Arr Z h a (newA cA ty n) ty) (hk : n.toNatClampNeg = k) (hd : fits ty (defaultValue ty) = true) : Ary Z h a ty (List.replicate k (defaultValue ty)) := by
  refine ⟨_, A, ?_, ?_, fun v hv => by rw [(List.mem_replicate.mp hv).2]; exact hd⟩
  · show Array.replicate n.toNatClampNeg (defaultValue ty) = _
    rw [hk]; simp
  · rw [List.length_replicate, ← hk]; have := Int32.toInt_lt n; simp only [Int32.toNatClampNeg]; omega
end Ary
section StepsA
variable {Z : State} {n0 kk : Nat} {code : ByteArray} {ml : Nat} {own nm : String} {ret : Option FieldType} {h : Heap} {p : Program} {l : Launch} {e : Env} {R : Room} {s : State} {m : MethodId} {args : Array Value} {below : List Frame} {meth : Method} {c : Code} {T : State} {locs : List Loc} {cells slots : Nat} {P : State → Outcome → Prop} {a0 : Array Value} {pc pc' : Nat} {L : Array Slot} {S : List Value}
theorem w_newarr (X : Sd Z n0 kk code ml own nm ret h p l e R s m args below meth c T locs cells slots) {aty : ArrayType} {n : Int32} (hd : Dc code pc (.newarray aty) 2 pc') (w : (Cond.arrayClass (newarray.typeOf aty)).before a0 Z = true) (k cap : Nat) (hn : ¬ n < 0) (hk : n.toNatClampNeg = k) (hcap : k ≤ cap) (hbig : cap * 8 ≤ 536870912) (hc : cells + 1 ≤ R.cells) (hl : slots + cap ≤ R.slots) (K : ∀ T' h' b, b = h.size → n0 ≤ b → Sd Z n0 kk code ml own nm ret h' p l e R s m args below meth c T' locs (cells + 1) (slots + cap) → Ext h h' → Ary Z h' b (newarray.typeOf aty) (List.replicate k (defaultValue (newarray.typeOf aty))) → Wp p e below P (T'.setTop (mkF m pc' L (.ref b :: S)))) : Wp p e below P (T.setTop (mkF m pc L (.int n :: S))) := by
  obtain ⟨hd, rfl⟩ := hd
  obtain ⟨T', h', cA, X', e', E, A, st⟩ := newP X.st X.hx X.hZ w X.eh (g := mkF m pc L (.int n :: S)) rfl (X.hb hd) rfl hn (cap := cap) (hk ▸ hcap) hbig hc hl
  exact Wp.of st (K T' h' _ rfl (X.old.1 ▸ X.old.2.1) (X.mk' X' e' X.fr (X.old.ext E) E.1) E (Ary.new A hk (by cases aty <;> rfl)))
theorem w_caload (X : Sd Z n0 kk code ml own nm ret h p l e R s m args below meth c T locs cells slots) {a : Addr} {j : Int32} {vs : List Value} {v : Value} (hd : Dc code pc .caload 1 pc') (A : Ary Z h a .char vs) (hj : ¬ j < 0) (hv : vs[j.toNatClampNeg]? = some v) (K : Wp p e below P (T.setTop (mkF m pc' L (v :: S)))) : Wp p e below P (T.setTop (mkF m pc L (.int j :: .ref a :: S))) := by
  obtain ⟨hd, rfl⟩ := hd
  obtain ⟨c', A, e, -⟩ := A
  exact Wp.of (fun _ k => X.st.caload X.hx (by rw [X.eh]; exact A.1) (State.isArrayOf_alike X.hZ.alike A.2.1) A.2.2 (own_inb e hj hv) (own_at e hv) (g := mkF m pc L (.int j :: .ref a :: S)) rfl rfl (X.hb hd) _ k) K
theorem w_baload (X : Sd Z n0 kk code ml own nm ret h p l e R s m args below meth c T locs cells slots) {a : Addr} {j : Int32} {vs : List Value} {v : Value} (hd : Dc code pc .baload 1 pc') (A : Ary Z h a .byte vs) (hj : ¬ j < 0) (hv : vs[j.toNatClampNeg]? = some v) (K : Wp p e below P (T.setTop (mkF m pc' L (v :: S)))) : Wp p e below P (T.setTop (mkF m pc L (.int j :: .ref a :: S))) := by
  obtain ⟨hd, rfl⟩ := hd
  obtain ⟨c', A, e, -⟩ := A
  exact Wp.of (fun _ k => X.st.baloadBytes X.hx (by rw [X.eh]; exact A.1) (State.isArrayOf_alike X.hZ.alike A.2.1) A.2.2 (own_inb e hj hv) (own_at e hv) (g := mkF m pc L (.int j :: .ref a :: S)) rfl rfl (X.hb hd) _ k) K
theorem w_arrlen (X : Sd Z n0 kk code ml own nm ret h p l e R s m args below meth c T locs cells slots) {a : Addr} {vs : List Value} {ty : FieldType} (n : Int32) (hd : Dc code pc .arraylength 1 pc') (A : Ary Z h a ty vs) (hn : vs.length.toInt32 = n) (K : Wp p e below P (T.setTop (mkF m pc' L (.int n :: S)))) : Wp p e below P (T.setTop (mkF m pc L (.ref a :: S))) := by
  obtain ⟨hd, rfl⟩ := hd
  obtain ⟨c', A, e, -⟩ := A
  exact Wp.of (fun _ k => X.st.arraylength X.hx (by rw [X.eh]; exact A.1) (State.isArrayOf_alike X.hZ.alike A.2.1) (g := mkF m pc L (.ref a :: S)) rfl rfl (X.hb hd) _ (by rw [Ary.size e, hn]; exact k)) K
theorem w_castore (X : Sd Z n0 kk code ml own nm ret h p l e R s m args below meth c T locs cells slots) {a : Addr} {j : Int32} {x : Int32} {vs : List Value} {u : Value} (hd : Dc code pc .castore 1 pc') (A : Ary Z h a .char vs) (hj : ¬ j < 0) (hv : vs[j.toNatClampNeg]? = some u) (ga : n0 ≤ a) (v' : Value) (e' : (.int (nar .char x) : Value) = v') (vs' : List Value) (hs : vs.set j.toNatClampNeg v' = vs') (K : ∀ T' h', Sd Z n0 kk code ml own nm ret h' p l e R s m args below meth c T' (locs ++ [⟨a, j.toNatClampNeg⟩]) cells slots → Wr h h' a j.toNatClampNeg v' → Ary Z h' a .char vs' → Wp p e below P (T'.setTop (mkF m pc' L S))) : Wp p e below P (T.setTop (mkF m pc L (.int x :: .int j :: .ref a :: S))) := by
  subst e' hs
  obtain ⟨hd, rfl⟩ := hd
  have A0 := A
  obtain ⟨c', A, e, -⟩ := A
  obtain ⟨T', h', X', e', W, st⟩ := stC X.st X.hx X.hZ X.eh A (own_inb e hj hv) (g := mkF m pc L (.int x :: .int j :: .ref a :: S)) rfl rfl (X.hb hd)
  exact Wp.of st (K T' h' (X.mk' X' e' (Fr.snoc X' X.fr ga) (X.old.wr W ga) (Nat.le_of_eq W.size.symm)) W (A0.set (fits_nar_char _) W))
theorem w_bastore (X : Sd Z n0 kk code ml own nm ret h p l e R s m args below meth c T locs cells slots) {a : Addr} {j : Int32} {x : Int32} {vs : List Value} {u : Value} (hd : Dc code pc .bastore 1 pc') (A : Ary Z h a .byte vs) (hj : ¬ j < 0) (hv : vs[j.toNatClampNeg]? = some u) (ga : n0 ≤ a) (v' : Value) (e' : (.int (nar .byte x) : Value) = v') (vs' : List Value) (hs : vs.set j.toNatClampNeg v' = vs') (K : ∀ T' h', Sd Z n0 kk code ml own nm ret h' p l e R s m args below meth c T' (locs ++ [⟨a, j.toNatClampNeg⟩]) cells slots → Wr h h' a j.toNatClampNeg v' → Ary Z h' a .byte vs' → Wp p e below P (T'.setTop (mkF m pc' L S))) : Wp p e below P (T.setTop (mkF m pc L (.int x :: .int j :: .ref a :: S))) := by
  subst e' hs
  obtain ⟨hd, rfl⟩ := hd
  have A0 := A
  obtain ⟨c', A, e, -⟩ := A
  obtain ⟨T', h', X', e', W, st⟩ := stB X.st X.hx X.hZ X.eh A (own_inb e hj hv) (g := mkF m pc L (.int x :: .int j :: .ref a :: S)) rfl rfl (X.hb hd)
  exact Wp.of st (K T' h' (X.mk' X' e' (Fr.snoc X' X.fr ga) (X.old.wr W ga) (Nat.le_of_eq W.size.symm)) W (A0.set (fits_nar_byte _) W))
theorem w_cast (X : Sd Z n0 kk code ml own nm ret h p l e R s m args below meth c T locs cells slots) {K0 : String} {index : Nat} {a : Addr} (hd : Dc code pc (.checkcast index) 3 pc') (w : (Cond.classLink own index K0).before a0 Z = true) (F : Ins Z h a K0 true) (K : ∀ T', Sd Z n0 kk code ml own nm ret h p l e R s m args below meth c T' locs cells slots → Wp p e below P (T'.setTop (mkF m pc' L (.ref a :: S)))) : Wp p e below P (T.setTop (mkF m pc L (.ref a :: S))) := by
  obtain ⟨hd, rfl⟩ := hd
  obtain ⟨T', X', e', st⟩ := castY X.st X.hx X.hZ X.hown w X.eh F (g := mkF m pc L (.ref a :: S)) rfl rfl (X.hb hd)
  exact Wp.of st (K T' (X.mk' X' e' X.fr X.old (Nat.le_refl _)))
end StepsA
end Jvm.RoadKit
namespace Jvm.RoadKit
open Sem ClassFile Op Lib Jvm.Stand Jvm.Free Jvm.LawKit
def PoW (Z : State) (n0 : Nat) (s : State) (Q : Option Value → Heap → Prop) (ce sl : Nat) : State → Outcome → Prop := fun U o => ∃ v L, o = .returned v ∧ (Fr n0 L ∧ Old Z n0 U.heap ∧ s.heap.size ≤ U.heap.size ∧ Q v U.heap) ∧ ReturnedEndW s o U L ce sl
def DoesW (l : Launch) (Z : State) (n0 : Nat) (y : MethodName) (code : ByteArray) (ml : Nat) (ret : Option FieldType) (ws : List Cond) (rm : Room) (as' : Array Value) (h0 : Heap) (Q : Option Value → Heap → Prop) : Prop :=
  Old Z n0 h0 → MetFree l y (head1 (Cond.code y code ml ret :: ws) rm) (fun a U => a = as' ∧ Z.Warmed39 U.vm ∧ U.heap = h0) (fun _ _ _ _ _ => True) (fun _ U o U' => ∃ v L, o = .returned v ∧ (Fr n0 L ∧ Old Z n0 U'.heap ∧ h0.size ≤ U'.heap.size ∧ Q v U'.heap) ∧ ReturnedEndW U o U' L rm.cells rm.slots)
theorem DoesW.start {l : Launch} {Z : State} {n0 : Nat} {y : MethodName} {code : ByteArray} {ml : Nat} {ret : Option FieldType} {ws : List Cond} {rm : Room} {as' : Array Value} {h0 : Heap} {Q : Option Value → Heap → Prop} (hp : plainFor y = true)
    (body : ∀ p e s m below meth c s₁, Sd Z n0 0 code ml y.cls y.name ret h0 p l e rm (s.setVm s.vm) m as' below meth c s₁ [] 0 0 → s.Since s.vm 0 → s.heap = h0 → Wp p e below (PoW Z n0 s Q rm.cells rm.slots) (s₁.setTop (entryFrame m as' ml))) : DoesW l Z n0 y code ml ret ws rm as' h0 Q := by
  intro hold
  refine MetFree.of_bodySF hp hisR ?_
  intro p e s m args below meth c s₁ Bd hml0 hP hK
  obtain ⟨rfl, hZ, hh⟩ := hP
  have hh' := hh
  subst hh
  exact body p e s m below meth c s₁ ⟨Stand.of_body Bd, ⟨Bd.exec, Bd.bytes, hml0, findClass_of_methodNamed Bd.named, hZ, Bd.returns, (name_of_methodNamed Bd.named Bd.method).1, Bd.notSynchronized⟩, by rw [Bd.state]; rfl, Fr.nil n0, hold, Nat.zero_le _⟩ ((State.WarmedH.refl s).since 0) rfl
theorem DoesW.mono {l : Launch} {Z : State} {n0 : Nat} {y : MethodName} {code : ByteArray} {ml : Nat} {ret : Option FieldType} {ws : List Cond} {rm : Room} {as' : Array Value} {h0 : Heap} {Q Q' : Option Value → Heap → Prop} (D : DoesW l Z n0 y code ml ret ws rm as' h0 Q) (f : ∀ v h, Q v h → Q' v h) : DoesW l Z n0 y code ml ret ws rm as' h0 Q' := by
  intro hold p e ha hc hk s m args below hf happ hP hK
  obtain ⟨n, o, h1, h2, h3, v, L, e1, ⟨q1, q2, q2', q3⟩, q4⟩ := D hold p e ha hc hk s m args below hf happ hP hK
  exact ⟨n, o, h1, h2, h3, v, L, e1, ⟨q1, q2, q2', f _ _ q3⟩, q4⟩
/-- the law's own contract: at the start Z itself -/
def DoesL (l : Launch) (Z : State) (n0 : Nat) (y : MethodName) (code : ByteArray) (ml : Nat) (ret : Option FieldType) (ws : List Cond) (rm : Room) (as' : Array Value) (Q : Option Value → Heap → Prop) : Prop :=
  MetFree l y (head1 (Cond.code y code ml ret :: ws) rm) (fun a U => a = as' ∧ U = Z) (fun _ _ _ _ _ => True) (fun _ U o U' => ∃ v L, o = .returned v ∧ (Fr n0 L ∧ Old Z n0 U'.heap ∧ U.heap.size ≤ U'.heap.size ∧ Q v U'.heap) ∧ ReturnedEndW U o U' L rm.cells rm.slots)
theorem DoesL.start {l : Launch} {Z : State} {n0 : Nat} {y : MethodName} {code : ByteArray} {ml : Nat} {ret : Option FieldType} {ws : List Cond} {rm : Room} {as' : Array Value} {Q : Option Value → Heap → Prop} (hn0 : Z.heap.size = n0) (hp : plainFor y = true)
    (body : ∀ p e s m below meth c s₁, Sd Z n0 0 code ml y.cls y.name ret Z.heap p l e rm (s.setVm s.vm) m as' below meth c s₁ [] 0 0 → s.Since s.vm 0 → s = Z → Wp p e below (PoW Z n0 s Q rm.cells rm.slots) (s₁.setTop (entryFrame m as' ml))) : DoesL l Z n0 y code ml ret ws rm as' Q := by
  refine MetFree.of_bodySF hp hisR ?_
  intro p e s m args below meth c s₁ Bd hml0 hP hK
  obtain ⟨rfl, hh⟩ := hP
  have hh' := hh
  subst hh
  exact body p e s m below meth c s₁ ⟨Stand.of_body Bd, ⟨Bd.exec, Bd.bytes, hml0, findClass_of_methodNamed Bd.named, State.Warmed39.refl s, Bd.returns, (name_of_methodNamed Bd.named Bd.method).1, Bd.notSynchronized⟩, by rw [Bd.state]; rfl, Fr.nil n0, hn0 ▸ Old.start s, Nat.zero_le _⟩ ((State.WarmedH.refl s).since 0) rfl
section StepsW
variable {Z : State} {n0 kk : Nat} {code : ByteArray} {ml : Nat} {own nm : String} {ret : Option FieldType} {h : Heap} {p : Program} {l : Launch} {e : Env} {R : Room} {s : State} {m : MethodId} {args : Array Value} {below : List Frame} {meth : Method} {c : Code} {T : State} {locs : List Loc} {cells slots : Nat} {P : State → Outcome → Prop} {a0 : Array Value} {u : Vm} {pc pc' : Nat} {L : Array Slot} {S : List Value} {Q : Option Value → Heap → Prop} {ce sl : Nat}
theorem Sd.doneW (X : Sd Z n0 kk code ml own nm ret h p l e R (s.setVm u) m args below meth c T locs cells slots) (Y : s.Since u kk) {v : Option Value} (hv : ret = none → v = none) (hq : Q v h) (hc : cells ≤ ce) (hs : slots ≤ sl) {g : JFrame} (step : ∀ fs, (∀ (f : JFrame) (acts : List Action), f.method = m → f.locked = none → f.entered = [] → (doReturn e (T.setTop f) acts v).1 = T.setFrames fs) → Steps p.tables e below (T.setTop g) (T.setFrames fs)) : Wp p e below (PoW Z n0 s Q ce sl) (T.setTop g) := by
  obtain ⟨fs, hr, hrun, hended, hE⟩ := X.st.leaveW Y (by rw [X.eh]; exact X.hkk) (v := v) (fun q => hv (X.hret ▸ q)) X.hlk
  have e1 : (T.setFrames fs).heap = h := X.eh
  refine ⟨_, _, step fs hr, hrun, hended, v, locs, rfl, ⟨X.fr, ?_, X.st.same.2.1, ?_⟩, hE.1, hE.2.1, hE.2.2.1, hE.2.2.2.mono hc hs⟩
  · rw [e1]; exact X.old
  · rw [e1]; exact hq
theorem v_ret_boolean (X : Sd Z n0 kk code ml own nm (some .boolean) h p l e R (s.setVm u) m args below meth c T locs cells slots) (Y : s.Since u kk) {z : Int32} (z' : Int32) (hz : nar .boolean z = z') (hd : Dc code pc .ireturn 1 pc') (hq : Q (some (.int z')) h) (hc : cells ≤ ce) (hs : slots ≤ sl) : Wp p e below (PoW Z n0 s Q ce sl) (T.setTop (mkF m pc L (.int z :: S))) := by
  subst hz
  exact X.doneW Y nofun hq hc hs fun fs hr => retN X.st X.hx X.hret (by simp) (X.hb hd.1) hr
end StepsW
end Jvm.RoadKit
namespace Jvm.RoadKit
open Sem ClassFile Op Lib Jvm.Stand Jvm.Free Jvm.LawKit
def PoG (Z : State) (n0 : Nat) (s : State) (Q : Option Value → Heap → Vm → Prop) (ce sl : Nat) : State → Outcome → Prop := fun U o => ∃ v L, o = .returned v ∧ (Fr n0 L ∧ Old Z n0 U.heap ∧ s.heap.size ≤ U.heap.size ∧ Q v U.heap U.vm) ∧ ReturnedEndW s o U L ce sl
def DoesG (l : Launch) (Z : State) (n0 : Nat) (G : Vm → Prop) (y : MethodName) (code : ByteArray) (ml : Nat) (ret : Option FieldType) (ws : List Cond) (rm : Room) (as' : Array Value) (h0 : Heap) (Q : Option Value → Heap → Vm → Prop) : Prop :=
  Old Z n0 h0 → MetFree l y (head1 (Cond.code y code ml ret :: ws) rm) (fun a U => a = as' ∧ Z.Warmed39 U.vm ∧ U.heap = h0 ∧ G U.vm) (fun _ _ _ _ _ => True) (fun _ U o U' => ∃ v L, o = .returned v ∧ (Fr n0 L ∧ Old Z n0 U'.heap ∧ h0.size ≤ U'.heap.size ∧ Q v U'.heap U'.vm) ∧ ReturnedEndW U o U' L rm.cells rm.slots)
theorem DoesG.start {l : Launch} {Z : State} {n0 : Nat} {G : Vm → Prop} {y : MethodName} {code : ByteArray} {ml : Nat} {ret : Option FieldType} {ws : List Cond} {rm : Room} {as' : Array Value} {h0 : Heap} {Q : Option Value → Heap → Vm → Prop} (hp : plainFor y = true)
    (body : ∀ p e s m below meth c s₁, Sd Z n0 0 code ml y.cls y.name ret h0 p l e rm (s.setVm s.vm) m as' below meth c s₁ [] 0 0 → s.Since s.vm 0 → s.heap = h0 → G s.vm → Wp p e below (PoG Z n0 s Q rm.cells rm.slots) (s₁.setTop (entryFrame m as' ml))) : DoesG l Z n0 G y code ml ret ws rm as' h0 Q := by
  intro hold
  refine MetFree.of_bodySF hp hisR ?_
  intro p e s m args below meth c s₁ Bd hml0 hP hK
  obtain ⟨rfl, hZ, hh, hG⟩ := hP
  have hh' := hh
  subst hh
  exact body p e s m below meth c s₁ ⟨Stand.of_body Bd, ⟨Bd.exec, Bd.bytes, hml0, findClass_of_methodNamed Bd.named, hZ, Bd.returns, (name_of_methodNamed Bd.named Bd.method).1, Bd.notSynchronized⟩, by rw [Bd.state]; rfl, Fr.nil n0, hold, Nat.zero_le _⟩ ((State.WarmedH.refl s).since 0) rfl hG
theorem own_backG {p : Program} {l : Launch} {e : Env} {R : Room} {s : State} {args : Array Value} {below : List Frame} {Z : State} {a0 : Array Value} {h : Heap} {G : Vm → Prop} {y : MethodName} {bytes : ByteArray} {maxL : Nat} {ret : Option FieldType} {rm : Room} {len W : Nat} {as' : Array Value} {Q : Option Value → Heap → Vm → List Loc → Prop}
    (hM : MetFree l y (head1 [Cond.code y bytes maxL ret] rm) (fun a U => a = as' ∧ Z.Warmed39 U.vm ∧ U.heap = h ∧ G U.vm) (fun _ _ _ _ _ => True) (fun _ U o U' => ∃ v L, o = .returned v ∧ Q v U'.heap U'.vm L ∧ ReturnedEndW U o U' L rm.cells rm.slots))
    (hG : ∀ vm', s.WarmedH vm' → G vm') (hZ : Z.Warmed39 s.vm) (wc : (Cond.code y bytes maxL ret).before a0 Z = true) (wz : (Cond.initialized y.cls).before a0 Z = true) (hf : rm.frames + 1 ≤ R.frames) (hl : W + (maxL + 11) + rm.locals ≤ R.locals) :
    BackS l R p e below s args y len W (fun A a => a = as' ∧ A.U.heap = h ∧ A.cells + rm.cells ≤ R.cells ∧ A.slots + rm.slots ≤ R.slots)
      (fun A _ v B => ∃ L, Q v B.U.heap B.U.vm L ∧ B.locs = A.locs ++ L ∧ B.cells = A.cells + rm.cells ∧ B.slots = A.slots + rm.slots) :=
  BackS.of_freeW (bytes := bytes) (maxL := maxL) (ret := ret) (E := fun _ _ o t L k n => k = rm.cells ∧ n = rm.slots ∧ ∃ v, o = .returned v ∧ Q v t.heap t.vm L) hM hf hl
    (fun m meth c A a Y hp => have hU : Z.Warmed39 A.U.vm := wtrans hZ Y.warmed
      ⟨by show (Cond.and _ .tt).before a A.U = true; rw [Cond.before_and, mv hU wc]; rfl, mv hU wc, mv hU wz, hp.2.2.1, hp.2.2.2⟩)
    (fun m meth c A a g mk Y hp => ⟨hp.1, wtrans hZ Y.warmed, hp.2.1, hG _ Y.warmed⟩) (fun _ _ _ _ _ _ _ _ _ => trivial)
    (fun _ _ _ _ ⟨v, L, h1, h2, h3⟩ => ⟨L, _, _, h3, rfl, rfl, v, h1, h2⟩)
    (fun m meth c A a g mk v t L k n Y hp _ _ ⟨e1, e2, v', e3, e4⟩ => by cases e3; subst e1 e2; exact ⟨L, e4, rfl, rfl, rfl⟩)
section StepsG
variable {Z : State} {n0 kk : Nat} {code : ByteArray} {ml : Nat} {own nm : String} {ret : Option FieldType} {h : Heap} {p : Program} {l : Launch} {e : Env} {R : Room} {s : State} {m : MethodId} {args : Array Value} {below : List Frame} {meth : Method} {c : Code} {T : State} {locs : List Loc} {cells slots : Nat} {P : State → Outcome → Prop} {a0 : Array Value} {u : Vm} {pc pc' : Nat} {L : Array Slot} {S : List Value} {Q : Option Value → Heap → Vm → Prop} {ce sl : Nat}
theorem Sd.doneG (X : Sd Z n0 kk code ml own nm ret h p l e R (s.setVm u) m args below meth c T locs cells slots) (Y : s.Since u kk) {v : Option Value} (hv : ret = none → v = none) (hq : ∀ vm', (s.setVm u).WarmedH vm' → Q v h vm') (hc : cells ≤ ce) (hs : slots ≤ sl) {g : JFrame} (step : ∀ fs, (∀ (f : JFrame) (acts : List Action), f.method = m → f.locked = none → f.entered = [] → (doReturn e (T.setTop f) acts v).1 = T.setFrames fs) → Steps p.tables e below (T.setTop g) (T.setFrames fs)) : Wp p e below (PoG Z n0 s Q ce sl) (T.setTop g) := by
  obtain ⟨fs, hr, hrun, hended, hE⟩ := X.st.leaveW Y (by rw [X.eh]; exact X.hkk) (v := v) (fun q => hv (X.hret ▸ q)) X.hlk
  have e1 : (T.setFrames fs).heap = h := X.eh
  refine ⟨_, _, step fs hr, hrun, hended, v, locs, rfl, ⟨X.fr, ?_, X.st.same.2.1, ?_⟩, hE.1, hE.2.1, hE.2.2.1, hE.2.2.2.mono hc hs⟩
  · rw [e1]; exact X.old
  · rw [e1]; exact hq _ X.st.warmed
theorem g_retR (X : Sd Z n0 kk code ml own nm ret h p l e R (s.setVm u) m args below meth c T locs cells slots) (Y : s.Since u kk) {t : FieldType} {z : Value} (ht : t.isReference = true) (hz : z.isRef = true) (hret : ret = some t) (hd : Dc code pc .areturn 1 pc') (hq : ∀ vm', (s.setVm u).WarmedH vm' → Q (some z) h vm') (hc : cells ≤ ce) (hs : slots ≤ sl) : Wp p e below (PoG Z n0 s Q ce sl) (T.setTop (mkF m pc L (z :: S))) := by
  subst hret
  exact X.doneG Y nofun hq hc hs fun fs hr => retOut X.st X.hx X.hret (by rcases ref_cases hz with rfl | ⟨z, rfl⟩ <;> cases t <;> first | rfl | cases ht) (Or.inr (Or.inr (Or.inr (Or.inr ⟨rfl, ht, hz⟩)))) (X.hb hd.1) hr
theorem g_retV (X : Sd Z n0 kk code ml own nm none h p l e R (s.setVm u) m args below meth c T locs cells slots) (Y : s.Since u kk) (hd : Dc code pc .return_ 1 pc') (hq : ∀ vm', (s.setVm u).WarmedH vm' → Q none h vm') (hc : cells ≤ ce) (hs : slots ≤ sl) : Wp p e below (PoG Z n0 s Q ce sl) (T.setTop (mkF m pc L [])) :=
  X.doneG Y (fun _ => rfl) hq hc hs fun fs hr => X.st.returnOut X.hx X.hret (X.hb hd.1) hr
theorem v_ldcA (X : Sd Z n0 kk code ml own nm ret h p l e R (s.setVm u) m args below meth c T locs cells slots) {index : Nat} {text : String} {a : Addr} (hd : Dc code pc (.ldc index) 2 pc') (w1 : (Cond.stringLink own index text).before a0 Z = true) (hL : Lit (s.setVm u) own index a) (K : Wp p e below P (T.setTop (mkF m pc' L (.ref a :: S)))) : Wp p e below P (T.setTop (mkF m pc L S)) := by
  obtain ⟨hd, rfl⟩ := hd
  exact Wp.of (fun _ k => ldcAgain (s := s) X.st X.hx X.hZ X.hown w1 hL (g := mkF m pc L S) rfl (X.hb hd) _ k) K
theorem g_callS (X : Sd Z n0 kk code ml own nm ret h p l e R (s.setVm u) m args below meth c T locs cells slots) (Y : s.Since u kk) {G : Vm → Prop} {y : MethodName} {bytes : ByteArray} {maxL : Nat} {ret' : Option FieldType} {rm : Room} {index : Nat} {Q' : Option Value → Heap → Vm → Prop} {ps : List FieldType} {rr : Option FieldType} {stk : List Value} (hG : ∀ vm', (s.setVm u).WarmedH vm' → G vm') (hd : Dc code pc (.invokestatic index) 3 pc') (w1 : (Cond.methodLink own index y).before a0 Z = true) (w2 : (Cond.static y).before a0 Z = true) (w3 : (Cond.initialized y.cls).before a0 Z = true) (w4 : (Cond.code y bytes maxL ret').before a0 Z = true) (hy : y.cls ≠ "java/lang/invoke/MethodHandle" ∧ y.cls ≠ "java/lang/invoke/VarHandle") {argsL : List Value} (D : DoesG l Z n0 G y bytes maxL ret' [] rm argsL.toArray h Q') (hpd : parseMethodDescriptor y.desc = some ⟨ps, rr⟩) (hlen : argsL.length = ps.length) (hst : stk = argsL.reverse ++ S) (hsz : L.size = ml) (hf : rm.frames + 1 ≤ R.frames) (hl : (S.map fun v => v.category).sum + (maxL + 11) + rm.locals ≤ R.locals) (hc : cells + rm.cells ≤ R.cells) (hs : slots + rm.slots ≤ R.slots) (K : ∀ T' h' v L' u' kk', Sd Z n0 kk' code ml own nm ret h' p l e R (s.setVm u') m args below meth c T' (locs ++ L') (cells + rm.cells) (slots + rm.slots) → s.Since u' kk' → Q' v h' u' → Wp p e below P (T'.setTop (mkF m pc' L (v.toList ++ S)))) : Wp p e below P (T.setTop (mkF m pc L stk)) := by
  obtain ⟨hd, rfl⟩ := hd
  obtain ⟨v, vm1, ⟨T', L1, k1, n1⟩, -, X', hS', hgr, ⟨Lc, hQ, l1, y1, z1⟩, st⟩ := callSS X.st X.hx X.hown (mvT X.hZ w1) (mvT X.hZ w2) (mvT X.hZ w3) (mvT X.hZ w4) hy (own_backG (Q := fun v h' vm' L => Fr n0 L ∧ Old Z n0 h' ∧ h.size ≤ h'.size ∧ Q' v h' vm') (W := (S.map fun v => v.category).sum) (D X.old) hG X.hZ w4 w3 hf hl) (g := mkF m pc L stk) rfl (by rw [X.hml]; exact hsz) (argsL := argsL) (rest := S) (lenOf hpd hlen) hst (by show 2 * 0 + _ ≤ _; omega) (X.hb hd) (fun _ _ => ⟨rfl, X.eh, hc, hs⟩)
  dsimp only [Pt.U, Pt.locs, Pt.cells, Pt.slots] at X' hS' hgr l1 y1 z1 st hQ
  subst l1 y1 z1
  exact Wp.tr st (K T' _ v Lc T'.vm T'.heap.size ⟨X', ⟨X.hx, X.2.1.2.1, X.hml, (hS'.1.alike.findClass _ _).trans X.hown, State.Warmed39.trans X.hZ hS'.1, X.hret, X.hnm, X.hlk⟩, rfl, X.fr.app hQ.1, hQ.2.1, Nat.le_refl _⟩ (Y.trans hS' (Nat.le_trans X.hkk (X.eh ▸ hgr))) hQ.2.2.2)
theorem g_callI (X : Sd Z n0 kk code ml own nm ret h p l e R (s.setVm u) m args below meth c T locs cells slots) (Y : s.Since u kk) {G : Vm → Prop} {y : MethodName} {bytes : ByteArray} {maxL : Nat} {rm : Room} {index : Nat} {Q' : Option Value → Heap → Vm → Prop} {ps : List FieldType} {rr : Option FieldType} {stk : List Value} (hG : ∀ vm', (s.setVm u).WarmedH vm' → G vm') (hd : Dc code pc (.invokespecial index) 3 pc') (hi : y.name = "<init>") (w1 : (Cond.methodLink own index y).before a0 Z = true) (w2 : (Cond.instanceMethod y).before a0 Z = true) (w3 : (Cond.initialized y.cls).before a0 Z = true) (w4 : (Cond.code y bytes maxL none).before a0 Z = true) (hy : y.cls ≠ "java/lang/invoke/MethodHandle" ∧ y.cls ≠ "java/lang/invoke/VarHandle") {a : Addr} {argsL : List Value} (D : DoesG l Z n0 G y bytes maxL none [] rm (.ref a :: argsL).toArray h Q') (hpd : parseMethodDescriptor y.desc = some ⟨ps, rr⟩) (hlen : argsL.length = ps.length) (hst : stk = argsL.reverse ++ .ref a :: S) (hsz : L.size = ml) (hf : rm.frames + 1 ≤ R.frames) (hl : (S.map fun v => v.category).sum + (maxL + 11) + rm.locals ≤ R.locals) (hc : cells + rm.cells ≤ R.cells) (hs : slots + rm.slots ≤ R.slots) (K : ∀ T' h' v L' u' kk', Sd Z n0 kk' code ml own nm ret h' p l e R (s.setVm u') m args below meth c T' (locs ++ L') (cells + rm.cells) (slots + rm.slots) → s.Since u' kk' → Q' v h' u' → Wp p e below P (T'.setTop (mkF m pc' L (v.toList ++ S)))) : Wp p e below P (T.setTop (mkF m pc L stk)) := by
  obtain ⟨hd, rfl⟩ := hd
  obtain ⟨v, vm1, ⟨T', L1, k1, n1⟩, -, X', hS', hgr, ⟨Lc, hQ, l1, y1, z1⟩, st⟩ := X.st.specialBackS X.hx hi X.hown (mvT X.hZ w1) (mvT X.hZ w2) (mvT X.hZ w4) hy (own_backG (Q := fun v h' vm' L => Fr n0 L ∧ Old Z n0 h' ∧ h.size ≤ h'.size ∧ Q' v h' vm') (W := (S.map fun v => v.category).sum) (D X.old) hG X.hZ w4 w3 hf hl) (g := mkF m pc L stk) rfl (by rw [X.hml]; exact hsz) (Steps.refl _) (a := a) (argsL := argsL) (rest := S) (lenOf hpd hlen) hst (by show 2 * 0 + _ ≤ _; omega) (X.hb hd) (fun _ _ => ⟨rfl, X.eh, hc, hs⟩)
  dsimp only [Pt.U, Pt.locs, Pt.cells, Pt.slots] at X' hS' hgr l1 y1 z1 st hQ
  subst l1 y1 z1
  exact Wp.tr st (K T' _ v Lc T'.vm T'.heap.size ⟨X', ⟨X.hx, X.2.1.2.1, X.hml, (hS'.1.alike.findClass _ _).trans X.hown, State.Warmed39.trans X.hZ hS'.1, X.hret, X.hnm, X.hlk⟩, rfl, X.fr.app hQ.1, hQ.2.1, Nat.le_refl _⟩ (Y.trans hS' (Nat.le_trans X.hkk (X.eh ▸ hgr))) hQ.2.2.2)
end StepsG
/-- the constant \"\" of java.lang.String: nobody has loaded a text since the start, or it is loaded and known -/
def Em (Z : State) (h : Heap) (u : Vm) : Prop := IB Z u [] ∨ ∃ a b, Lit (Z.setVm u) "java/lang/String" 7 a ∧ Exa Z h a "java/lang/String" ∧ Fld Z h a "java/lang/String" "coder" "B" (.int (0 : Int32)) ∧ Fld Z h a "java/lang/String" "value" "[B" (.ref b) ∧ Ary Z h b .byte []
theorem Em.warm {Z s : State} {h : Heap} {u vm' : Vm} (M : Em Z h u) (hW : (s.setVm u).WarmedH vm') : Em Z h vm' := by
  rcases M with ⟨more, e, hm⟩ | ⟨a, b, L, r⟩
  · exact Or.inl ⟨more, hW.interned_eq.trans e, hm⟩
  · exact Or.inr ⟨a, b, Lit.stays (s := s) (vm0 := u) (vm1 := vm') L hW.wide, r⟩
theorem Em.keep {Z : State} {h h' : Heap} {u : Vm} (M : Em Z h u) (K : Keep h h' []) : Em Z h' u := by
  rcases M with I | ⟨a, b, L, r1, r2, r3, r4⟩
  · exact Or.inl I
  · exact Or.inr ⟨a, b, L, r1.keep K, r2.keep K List.not_mem_nil, r3.keep K List.not_mem_nil, r4.keep K List.not_mem_nil⟩
theorem Em.ext {Z : State} {h h' : Heap} {u : Vm} (M : Em Z h u) (E : Ext h h') : Em Z h' u := by
  rcases M with I | ⟨a, b, L, r1, r2, r3, r4⟩
  · exact Or.inl I
  · exact Or.inr ⟨a, b, L, r1.ext E, r2.ext E, r3.ext E, r4.ext E⟩
/-- a String whose chars are cs: Latin-1, or UTF-16 in the little order -/
def Txt (Z : State) (h : Heap) (a t : Addr) (cs : List Int32) : Prop := Exa Z h a "java/lang/String" ∧ Fld Z h a "java/lang/String" "value" "[B" (.ref t) ∧ ((Fld Z h a "java/lang/String" "coder" "B" (.int (0 : Int32)) ∧ Ary Z h t .byte (cs.map fun c => .int (c.toInt8.toInt32)) ∧ ∀ c ∈ cs, ¬ (255 : Int32) < c) ∨ (Fld Z h a "java/lang/String" "coder" "B" (.int (1 : Int32)) ∧ Ary Z h t .byte (cs.flatMap fun c => [.int ((c >>> ((0 : Int32) &&& 31)).toInt8.toInt32), .int ((c >>> ((8 : Int32) &&& 31)).toInt8.toInt32)])))
theorem Txt.ext {Z : State} {h h' : Heap} {a t : Addr} {cs : List Int32} (M : Txt Z h a t cs) (E : Ext h h') : Txt Z h' a t cs := ⟨M.1.ext E, M.2.1.ext E, M.2.2.imp (fun q => ⟨q.1.ext E, q.2.1.ext E, q.2.2⟩) fun q => ⟨q.1.ext E, q.2.ext E⟩⟩
theorem Txt.keep {Z : State} {h h' : Heap} {a t : Addr} {cs : List Int32} {ws : List Addr} (M : Txt Z h a t cs) (K : Keep h h' ws) (q1 : a ∉ ws) (q2 : t ∉ ws) : Txt Z h' a t cs := ⟨M.1.keep K, M.2.1.keep K q1, M.2.2.imp (fun q => ⟨q.1.keep K q1, q.2.1.keep K q2, q.2.2⟩) fun q => ⟨q.1.keep K q1, q.2.keep K q2⟩⟩
theorem own_fne {Z : State} {h : Heap} {a b : Addr} {C n d : String} {v w : Value} (F : Fld Z h a C n d v) (G : Fld Z h b C n d w) (q : v ≠ w) : a ≠ b := fun r => by
  subst r
  obtain ⟨c1, _, _, _, f1, h1, h2, -, -, -, -, h3⟩ := F
  obtain ⟨c2, _, _, _, f2, g1, g2, -, -, -, -, g3⟩ := G
  cases h1.symm.trans g1
  cases h2.symm.trans g2
  cases h3.symm.trans g3
  exact q rfl
theorem own_ane {Z : State} {h : Heap} {a b : Addr} {C : String} {a0 : Array Value} {k : Nat} {ty : FieldType} {vs : List Value} (F : Exa Z h a C) (wi : (Cond.instantiable C k).before a0 Z = true) (A : Ary Z h b ty vs) : a ≠ b := by
  obtain ⟨c, A, -⟩ := A
  exact ne_arr F wi A
theorem own_chr {c : Int32} (h : nar .char c = c) : 0 ≤ c.toInt ∧ c.toInt < 65536 := by
  have q := c_i2c c
  rw [show c.toUInt32.toUInt16.toUInt32.toInt32 = c from h] at q
  exact q.2
theorem own_i2c {x c : Int32} (h : x.toInt = c.toInt) (hc : nar .char c = c) : x.toUInt32.toUInt16.toUInt32.toInt32 = c := by
  have e : x = c := Int32.toInt_inj.mp h
  rw [e]; exact hc
theorem own_b8 (x : Int32) : (x.toInt8.toInt32 &&& (255 : Int32)).toInt = x.toInt % 256 := by
  rw [Jvm.Kit.i32_mask _ 255 (k := 8) (by decide) (by decide), Int8.toInt_toInt32, Int32.toInt_toInt8]
  exact Int.bmod_emod
theorem own_lat {c : Int32} (hc : nar .char c = c) (hl : ¬ (255 : Int32) < c) : (c.toInt8.toInt32 &&& (255 : Int32)).toUInt32.toUInt16.toUInt32.toInt32 = c := by
  have r := own_chr hc
  rw [Int32.lt_iff_toInt_lt, show (255 : Int32).toInt = 255 from rfl] at hl
  exact own_i2c (by rw [own_b8]; omega) hc
end Jvm.RoadKit
namespace Jvm.RoadKit
open Sem ClassFile Op Lib Jvm.Stand Jvm.Free Jvm.LawKit
abbrev Hs := List (Nat × Nat × Nat × Nat)
def DoesT (l : Launch) (Z : State) (n0 : Nat) (G : Vm → Prop) (y : MethodName) (code : ByteArray) (ml : Nat) (ret : Option FieldType) (hs : Hs) (rm : Room) (as' : Array Value) (h0 : Heap) (Q : Option Value → Heap → Vm → Prop) : Prop :=
  Old Z n0 h0 → MetFree l y (head1 [Cond.codeWith y code ml ret hs] rm) (fun a U => a = as' ∧ Z.Warmed39 U.vm ∧ U.heap = h0 ∧ G U.vm) (fun _ _ _ _ _ => True) (fun _ U o U' => ∃ v L, o = .returned v ∧ (Fr n0 L ∧ Old Z n0 U'.heap ∧ h0.size ≤ U'.heap.size ∧ Q v U'.heap U'.vm) ∧ ReturnedEndW U o U' L rm.cells rm.slots)
theorem DoesT.start {l : Launch} {Z : State} {n0 : Nat} {G : Vm → Prop} {y : MethodName} {code : ByteArray} {ml : Nat} {ret : Option FieldType} {hs : Hs} {rm : Room} {as' : Array Value} {h0 : Heap} {Q : Option Value → Heap → Vm → Prop} (hp : plainFor y = true)
    (body : ∀ p e s m below meth c s₁, Sd Z n0 0 code ml y.cls y.name ret h0 p l e rm (s.setVm s.vm) m as' below meth c s₁ [] 0 0 → s.Since s.vm 0 → s.heap = h0 → G s.vm → Wp p e below (PoG Z n0 s Q rm.cells rm.slots) (s₁.setTop (entryFrame m as' ml))) : DoesT l Z n0 G y code ml ret hs rm as' h0 Q := by
  intro hold
  refine MetFree.of_bodySF hp hisWith ?_
  intro p e s m args below meth c s₁ Bd hml0 hP hK
  obtain ⟨rfl, hZ, hh, hG⟩ := hP
  have hh' := hh
  subst hh
  exact body p e s m below meth c s₁ ⟨Stand.of_body Bd, ⟨Bd.exec, Bd.bytes, hml0, findClass_of_methodNamed Bd.named, hZ, Bd.returns, (name_of_methodNamed Bd.named Bd.method).1, Bd.notSynchronized⟩, by rw [Bd.state]; rfl, Fr.nil n0, hold, Nat.zero_le _⟩ ((State.WarmedH.refl s).since 0) rfl hG
section StepsT
variable {Z : State} {n0 kk : Nat} {code : ByteArray} {ml : Nat} {own nm : String} {ret : Option FieldType} {h : Heap} {p : Program} {l : Launch} {e : Env} {R : Room} {s : State} {m : MethodId} {args : Array Value} {below : List Frame} {meth : Method} {c : Code} {T : State} {locs : List Loc} {cells slots : Nat} {P : State → Outcome → Prop} {a0 : Array Value} {u : Vm} {pc pc' : Nat} {L : Array Slot} {S : List Value} {ce sl : Nat}
end StepsT
end Jvm.RoadKit
namespace Jvm.RoadKit
open Sem ClassFile Op Lib Jvm.Stand Jvm.Free Jvm.LawKit
theorem own_lookup {vm : Vm} {c : ClassId} {k : Class} {n d : String} {r0 : MethodId} {r : Method} (hk : vm.classes[c]? = some k) (hf : k.findMethod n d = some r0.idx) (hc : r0.cls = c) (hr : vm.method? r0 = some r) (hs : r.isStatic = false) : lookupSpecial vm c n d = .method r0 := by
  have e : (⟨c, r0.idx⟩ : MethodId) = r0 := by rw [← hc]
  simp [lookupSpecial, hk, hf, e, hr, hs]
set_option maxHeartbeats 8000000 in
theorem own_wpSpecial {Q : Unit → Pre} {E : CtlPost} {e : Env} {d : Bool} {acts : List Action} {s : State} {f : JFrame} {index ci a : Nat} {nt : Nat} {r0 : MethodId} {named : ClassId} {ck nk mk : Class} {cf : ClassFile} {r : Method} {args rest : List Value} {cell : Cell} {kcell : Class}
    (hs : s.topJava?.isSome) (hr : s.vm.methodReady f.method.cls index r0) (hrm : s.vm.method? r0 = some r)
    (hck : s.vm.classes[f.method.cls]? = some ck) (hcf : ck.cf = some cf) (hc : cf.constantPool[index]? = some (.methodref ci nt) ∨ cf.constantPool[index]? = some (.interfaceMethodref ci nt))
    (hnamed : s.vm.classReady f.method.cls ci named) (hnk : s.vm.classes[named]? = some nk)
    (hinit : (r.name == "<init>" && r0.cls != named) = false) (hstatic : r.isStatic = false)
    (hsup : ck.super = some named) (hfound : lookupSpecial s.vm named r.name r.desc = .method r0) (hiface : ck.isInterface = false)
    (hmk : s.vm.classes[r0.cls]? = some mk) (habs : r.isAbstract = false)
    (hlen : args.length = r.sig.parameters.length) (hstack : f.stack = args.reverse ++ .ref a :: rest)
    (hcell : s.heap[a]? = some cell) (hobj : ∀ c, cell.vm ≠ .statics c) (hkcell : s.vm.classes[cell.cls]? = some kcell) :
    wp (invokespecial.sem index) Q E e d acts (s.setTop f) ↔ E (.invoke r0 (.ref a :: args).toArray) acts (s.setTop { f with stack := rest }) := by
  have hF : lookupSpecial s.vm (if r.name != "<init>" && !nk.isInterface && (named != f.method.cls && s.vm.isSubclass f.method.cls named) then ck.super.getD named else named) r.name r.desc = .method r0 := by
    rw [hsup]; simpa using hfound
  clear hfound
  simp only [invokespecial.sem, wp_bind', W.resolveMethodAt_ready (State.method?_setTop f hs) hr]
  rcases hc with hc | hc <;>
  (simp only [W.theMethod, State.vm_setTop, hrm, Option.some.injEq, exists_eq_left', Jvm.refClassAt, Jvm.constantAt, wp_bind', W.currentClass, W.theClass,
    State.method?_setTop f hs, hck, hcf, Option.bind_some, hc, wp_pure', W.resolveClassAt_ready (State.method?_setTop f hs) hnamed]
   simp only [W.ite, hinit, hstatic, Bool.false_eq_true, if_false, wp_bind', W.theClass, State.vm_setTop, hck, hnk, Option.some.injEq, exists_eq_left', W.look, hF,
    bne_self_eq_false, wp_pure', Jvm.popArgs, ← hlen, popN_top hs hstack]
   simp [hiface] at hF
   simp [hs, hcell, hobj, hkcell, hck, hiface, hrm, habs, hmk, hF, popN_top hs hstack])
theorem own_special {p : Program} {l : Launch} {e : Env} {R : Room} {s : State} {m : MethodId} {args : Array Value} {below : List Frame} {meth : Method} {c : Code} {T : State} {locs : List Loc} {cells slots : Nat} (X : Stand p l e R s m args below meth c T locs cells slots) (hexec : p.tables.exec = Jvm.exec)
    {own : String} {index : Nat} {y : MethodName} (hown : s.vm.findClass own = some m.cls) (w1 : (Cond.methodLink own index y).before args s = true) (w2 : (Cond.instanceMethod y).before args s = true) (w4 : (Cond.superclass own y.cls).before args s = true) (hni : y.name ≠ "<init>")
    (hy : y.cls ≠ "java/lang/invoke/MethodHandle" ∧ y.cls ≠ "java/lang/invoke/VarHandle") {mk : MethodId} {methM : Method} (hnamed : s.methodNamed? y = some mk) (hmeth : s.vm.method? mk = some methM)
    {a : Addr} {cell : Cell} {kcell : Class} (hcell : T.heap[a]? = some cell) (hobj : ∀ c, cell.vm ≠ .statics c) (hkcell : s.vm.classes[cell.cls]? = some kcell)
    {g : JFrame} (hg : g.method = m) {argsL rest : List Value} (hlen : argsL.length = methM.sig.parameters.length) (hstack : g.stack = argsL.reverse ++ .ref a :: rest) (hdg : decode c.code g.pc = .ok (.invokespecial index, 3)) :
    ∃ vm', Stand p l e R s m args below meth c (T.setVm vm') locs cells slots ∧ ∀ target, Steps p.tables e below (doInvoke e ((T.setVm vm').setTop { g with stack := rest }) [] mk (.ref a :: argsL).toArray).1 target → Steps p.tables e below (T.setTop g) target := by
  have hpl : e.platform.magicAccessors = ({} : Platform).magicAccessors := by rw [X.admits.platform]
  obtain ⟨mk', methM', hn', hm', hstM, habM⟩ := Cond.instanceMethod_spec w2
  cases hnamed.symm.trans hn'
  cases hmeth.symm.trans hm'
  obtain ⟨ci, hl, hright⟩ := Cond.methodLink_spec hown hnamed w1 e.platform hpl
  obtain ⟨kr, hkr, hkn⟩ := className_of_methodNamed hnamed
  have hE : s.MethodEntry e T.vm m.cls index mk ci := State.methodEntry X.warmed hl hright fun k hk => by cases hkr.symm.trans hk; rw [hkn]; exact hy
  obtain ⟨dk, cfile, nt, _, _, via, ck, _, hd, hcf, hcp, -, -, -, hck, -, hnopoly, -⟩ := hl.here
  cases hkr.symm.trans hck
  have hcp' : cfile.constantPool[index]? = some (.methodref ci nt) ∨ cfile.constantPool[index]? = some (.interfaceMethodref ci nt) := by
    cases via
    · exact Or.inl (by simpa using hcp)
    · exact Or.inr (by simpa using hcp)
  have hcn := findClass_of_methodNamed hnamed
  have ws := w4
  simp only [Cond.before, Cond.holds, Cond.value, hown, hcn, hd, hkr, Option.bind_some, Option.map_some] at ws
  have ws' : ((dk.super = some mk.cls ∧ dk.kind = .ordinary) ∧ kr.kind = .ordinary) ∧ dk.isInterface = false := by simpa using ws
  obtain ⟨hrn, hrd⟩ := name_of_methodNamed hnamed hmeth
  have hdecl : kr.findMethod y.name y.desc = some mk.idx := by
    have h' := hnamed
    simp only [State.methodNamed?, hcn, hkr, Option.bind_eq_bind, Option.bind_some, Option.bind_eq_some_iff, Option.pure_def, Option.some.injEq] at h'
    obtain ⟨i, hi, hmi⟩ := h'
    rw [← hmi]; exact hi
  have hfound : lookupSpecial s.vm mk.cls y.name y.desc = .method mk := own_lookup hkr hdecl rfl hmeth hstM
  have alike := hE.warmed.alike
  obtain ⟨dk₂, hdk₂, hres⟩ := hE.classReady
  obtain ⟨dk₃, hdk₃, hed⟩ := alike.2.2 _ _ hd
  cases hdk₂.symm.trans hdk₃
  obtain ⟨kr₂, hkr₂, her⟩ := alike.2.2 _ _ hkr
  obtain ⟨kc₂, hkc₂, -⟩ := alike.2.2 _ _ hkcell
  subst hg
  refine ⟨T.vm.called g.method.cls ci index mk, X.noted hE.warmed, fun target hrest => ?_⟩
  jvm_step X.here [hexec, hdg, invokespecial.wp_cold (e := e) (s := T) (s₀ := s) (f := g) X.here.top hE hd hcf hcp' hmeth,
    own_wpSpecial (e := e) (s := T.setVm (T.vm.called g.method.cls ci index mk)) (f := g) (index := index) (ci := ci) (nt := nt) (a := a) (r0 := mk) (named := mk.cls) (ck := dk₂) (nk := kr₂) (mk := kr₂) (cf := cfile) (r := methM) (args := argsL) (rest := rest) (cell := cell) (kcell := kc₂)
      X.here.top hE.ready (by show (T.vm.called g.method.cls ci index mk).method? mk = some methM; rw [alike.method?]; exact hmeth) hdk₂ (by rw [hed]; exact hcf) hcp' ⟨dk₂, hdk₂, hres⟩ hkr₂ (by rw [hrn]; simp [hni]) hstM (by rw [hed]; exact ws'.1.1.1)
      (by show lookupSpecial (T.vm.called g.method.cls ci index mk) mk.cls methM.name methM.desc = .method mk; rw [alike.lookupSpecial, hrn, hrd]; exact hfound) (by rw [hed]; exact ws'.2) hkr₂ habM hlen hstack hcell hobj hkc₂]
  intro acts1
  rw [doInvoke_state]
  exact hrest
section StepsS
variable {Z : State} {n0 kk : Nat} {code : ByteArray} {ml : Nat} {own nm : String} {ret : Option FieldType} {h : Heap} {p : Program} {l : Launch} {e : Env} {R : Room} {s : State} {m : MethodId} {args : Array Value} {below : List Frame} {meth : Method} {c : Code} {T : State} {locs : List Loc} {cells slots : Nat} {P : State → Outcome → Prop} {a0 : Array Value} {pc pc' : Nat} {L : Array Slot} {S : List Value}
theorem w_callSup (X : Sd Z n0 kk code ml own nm ret h p l e R s m args below meth c T locs cells slots) {y : MethodName} {bytes : ByteArray} {maxL : Nat} {ret' : Option FieldType} {rm : Room} {index : Nat} {Q' : Option Value → Heap → Prop} {ps : List FieldType} {rr : Option FieldType} {stk : List Value} (hd : Dc code pc (.invokespecial index) 3 pc') (hi : y.name ≠ "<init>") (w1 : (Cond.methodLink own index y).before a0 Z = true) (w2 : (Cond.instanceMethod y).before a0 Z = true) (wu : (Cond.superclass own y.cls).before a0 Z = true) (w3 : (Cond.initialized y.cls).before a0 Z = true) (w4 : (Cond.code y bytes maxL ret').before a0 Z = true) (hy : y.cls ≠ "java/lang/invoke/MethodHandle" ∧ y.cls ≠ "java/lang/invoke/VarHandle") {a : Addr} {C : String} (E : Exa Z h a C) {argsL : List Value} (D : Does l Z n0 y bytes maxL ret' [] rm (.ref a :: argsL).toArray h Q') (hpd : parseMethodDescriptor y.desc = some ⟨ps, rr⟩) (hlen : argsL.length = ps.length) (hst : stk = argsL.reverse ++ .ref a :: S) (hsz : L.size = ml) (hf : rm.frames + 1 ≤ R.frames) (hl : (S.map fun v => v.category).sum + (maxL + 11) + rm.locals ≤ R.locals) (hc : cells + rm.cells ≤ R.cells) (hs : slots + rm.slots ≤ R.slots) (K : ∀ T' h' v L', Sd Z n0 kk code ml own nm ret h' p l e R s m args below meth c T' (locs ++ L') (cells + rm.cells) (slots + rm.slots) → Q' v h' → Wp p e below P (T'.setTop (mkF m pc' L (v.toList ++ S)))) : Wp p e below P (T.setTop (mkF m pc L stk)) := by
  obtain ⟨hd, rfl⟩ := hd
  obtain ⟨mk, hnamed⟩ := Cond.code_named (mvT (args := args) X.hZ w4)
  obtain ⟨methM, cM, hmethM, -, -, -, -, -, -, hsig⟩ := Cond.code_spec hnamed (mvT (args := args) X.hZ w4)
  obtain ⟨cq, kq, -, qb, cell, qc, qd, qe⟩ := isOf X.hZ X.eh E
  obtain ⟨vm1, X1, hst1⟩ := own_special X.st X.hx X.hown (mvT X.hZ w1) (mvT X.hZ w2) (mvT X.hZ wu) hi hy hnamed hmethM (a := a) qc (fun q r => by rw [r] at qe; cases qe) (qd ▸ qb) (g := mkF m pc L stk) rfl (argsL := argsL) (rest := S) (lenOf hpd hlen _ hsig) hst (X.hb hd)
  obtain ⟨v, ⟨T', L1, k1, n1⟩, X', ⟨Lc, hQ, l1, y1, z1⟩, st⟩ := (backOf (Q := fun v h' L => Fr n0 L ∧ Old Z n0 h' ∧ h.size ≤ h'.size ∧ Q' v h') (W := (S.map fun v => v.category).sum) (D X.old) X.hZ w4 w3 hf hl) m meth c ⟨T.setVm vm1, locs, cells, slots⟩ { mkF m pc L stk with stack := S } (.invokespecial index) mk (.ref a :: argsL).toArray X1 rfl (by rw [X.hml]; exact hsz) (X.hb hd) (by show 2 * 0 + (S.map fun v => v.category).sum ≤ _; omega) (X1.named hnamed) ⟨rfl, X.eh, hc, hs⟩
  replace st := hst1 _ st
  dsimp only [Pt.U, Pt.locs, Pt.cells, Pt.slots] at X' l1 y1 z1 st hQ
  subst l1 y1 z1
  exact Wp.tr st (K T' _ v Lc (X.mk' X' rfl (X.fr.app hQ.1) hQ.2.1 hQ.2.2.1) hQ.2.2.2)
end StepsS
end Jvm.RoadKit
namespace Jvm.RoadKit
open Sem ClassFile Op Lib Jvm.Stand Jvm.Free Jvm.LawKit
/-- whoever is booked for the empty text now was booked at the start, or is an empty String at this heap -/
def Eh (Z : State) (h : Heap) (u : Vm) : Prop := ∀ a : Addr, u.interned.find? (fun p => p.1 == (#[] : Array UInt16)) = some (#[], a) → Z.vm.interned.find? (fun p => p.1 == (#[] : Array UInt16)) = some (#[], a) ∨ SlOf (({ Z with heap := h } : State).setVm u) a #[]
theorem Eh.ib {Z : State} {u : Vm} {h : Heap} (I : IB Z u []) : Eh Z h u := by
  obtain ⟨more, e, hm⟩ := I
  intro a hf
  refine Or.inl ?_
  rw [e, Array.find?_append] at hf
  cases hs : Z.vm.interned.find? (fun p => p.1 == (#[] : Array UInt16)) with
  | some pr => rw [hs] at hf; simpa using hf
  | none =>
    rw [hs, Option.none_or] at hf
    obtain ⟨t, ht, -⟩ := hm _ (Array.mem_of_find?_eq_some hf)
    cases ht
theorem Eh.warm {Z s : State} {h : Heap} {u vm' : Vm} (M : Eh Z h u) (hW : (s.setVm u).WarmedH vm') : Eh Z h vm' := fun a hf => by
  have e : vm'.interned = u.interned := hW.interned_eq
  rw [e] at hf
  rcases M a hf with q | q
  · exact Or.inl q
  · exact Or.inr (q.moved (W := (({ Z with heap := h } : State).setVm vm')) (show u.Alike vm' from hW.alike) fun _ _ r => r)
theorem Eh.keep {Z : State} {h h' : Heap} {u : Vm} (M : Eh Z h u) (K : Keep h h' []) : Eh Z h' u := fun a hf => (M a hf).imp id fun q => q.moved (W := (({ Z with heap := h' } : State).setVm u)) (Vm.Alike.refl _) fun b c r => K.2.1 b c r List.not_mem_nil
theorem Eh.ext {Z : State} {h h' : Heap} {u : Vm} (M : Eh Z h u) (E : Ext h h') : Eh Z h' u := fun a hf => (M a hf).imp id fun q => q.moved (W := (({ Z with heap := h' } : State).setVm u)) (Vm.Alike.refl _) fun b c r => E.2 b c r
section StepsE
variable {Z : State} {n0 kk : Nat} {code : ByteArray} {ml : Nat} {own nm : String} {ret : Option FieldType} {h : Heap} {p : Program} {l : Launch} {e : Env} {R : Room} {s : State} {m : MethodId} {args : Array Value} {below : List Frame} {meth : Method} {c : Code} {T : State} {locs : List Loc} {cells slots : Nat} {P : State → Outcome → Prop} {a0 : Array Value} {u : Vm} {pc pc' : Nat} {L : Array Slot} {S : List Value}
end StepsE
section StepsB
variable {Z : State} {n0 kk : Nat} {code : ByteArray} {ml : Nat} {own nm : String} {ret : Option FieldType} {h : Heap} {p : Program} {l : Launch} {e : Env} {R : Room} {s : State} {m : MethodId} {args : Array Value} {below : List Frame} {meth : Method} {c : Code} {T : State} {locs : List Loc} {cells slots : Nat} {P : State → Outcome → Prop} {a0 : Array Value} {pc pc' : Nat} {L : Array Slot} {S : List Value}
theorem w_newarrE (X : Sd Z n0 kk code ml own nm ret h p l e R s m args below meth c T locs cells slots) {aty : ArrayType} {n : Int32} (hd : Dc code pc (.newarray aty) 2 pc') (w : (Cond.arrayClass (newarray.typeOf aty)).before a0 Z = true) (k cap : Nat) (ad : String) (had : "[" ++ (newarray.typeOf aty).toString = ad) (hn : ¬ n < 0) (hk : n.toNatClampNeg = k) (hcap : k ≤ cap) (hbig : cap * 8 ≤ 536870912) (hc : cells + 1 ≤ R.cells) (hl : slots + cap ≤ R.slots) (K : ∀ T' h' b, b = h.size → n0 ≤ b → Sd Z n0 kk code ml own nm ret h' p l e R s m args below meth c T' locs (cells + 1) (slots + cap) → Ext h h' → Ary Z h' b (newarray.typeOf aty) (List.replicate k (defaultValue (newarray.typeOf aty))) → Exa Z h' b ad → Wp p e below P (T'.setTop (mkF m pc' L (.ref b :: S)))) : Wp p e below P (T.setTop (mkF m pc L (.int n :: S))) := by
  obtain ⟨hd, rfl⟩ := hd
  obtain ⟨T', h', cA, X', e', E, A, Ex, st⟩ := newPE X.st X.hx X.hZ w X.eh (g := mkF m pc L (.int n :: S)) rfl (X.hb hd) rfl hn (cap := cap) (hk ▸ hcap) hbig hc hl had
  exact Wp.of st (K T' h' _ rfl (X.old.1 ▸ X.old.2.1) (X.mk' X' e' X.fr (X.old.ext E) E.1) E (Ary.new A hk (by cases aty <;> rfl)) Ex)
theorem w_clone (X : Sd Z n0 kk code ml own nm ret h p l e R s m args below meth c T locs cells slots) {index : Nat} {a : Addr} {ty : FieldType} {ad : String} {vs : List Value} (k : Nat) (hd : Dc code pc (.invokevirtual index) 3 pc') (w1 : (Cond.methodLink own index ⟨ad, "clone", "()Ljava/lang/Object;"⟩).before a0 Z = true) (w2 : (Cond.sameMethod ad "java/lang/Object" "clone" "()Ljava/lang/Object;").before a0 Z = true) (w3 : (Cond.native ⟨"java/lang/Object", "clone", "()Ljava/lang/Object;"⟩).before a0 Z = true) (w4 : (Cond.instanceMethod ⟨"java/lang/Object", "clone", "()Ljava/lang/Object;"⟩).before a0 Z = true) (w5 : (Cond.selects ad ⟨ad, "clone", "()Ljava/lang/Object;"⟩ ⟨"java/lang/Object", "clone", "()Ljava/lang/Object;"⟩).before a0 Z = true) (w6 : (Cond.castable ad "java/lang/Cloneable").before a0 Z = true) (A : Ary Z h a ty vs) (E : Exa Z h a ad) (hvs : vs.length = k) (hsz : L.size = ml) (hf : 1 ≤ R.frames) (hl : (S.map fun v => v.category).sum + 14 ≤ R.locals) (hc : cells + 1 ≤ R.cells) (hs : slots + k ≤ R.slots) (K : ∀ T' h' b, b = h.size → n0 ≤ b → Sd Z n0 kk code ml own nm ret h' p l e R s m args below meth c T' locs (cells + 1) (slots + k) → Ext h h' → Ary Z h' b ty vs → Exa Z h' b ad → Wp p e below P (T'.setTop (mkF m pc' L (.ref b :: S)))) : Wp p e below P (T.setTop (mkF m pc L (.ref a :: S))) := by
  obtain ⟨hd, rfl⟩ := hd
  obtain ⟨c', A, e, l1, l2⟩ := A
  have F : FitC Z c' := fitC_of A fun i hi v hv => l2 v (by rw [e] at hv; exact List.mem_of_getElem? (by simpa using hv))
  obtain ⟨T', h', X', e', Ex, A', E', st⟩ := cloneA X.st X.hx X.hZ X.hown w1 w2 w3 w4 w5 w6 X.eh A E F (g := mkF m pc L (.ref a :: S)) rfl (by rw [X.hml]; exact hsz) rfl (X.hb hd) hf (W := (S.map fun v => v.category).sum) (by show 2 * 0 + _ ≤ _; omega) hl (cap := k) (by rw [Ary.size e]; omega) hc hs
  exact Wp.of st (K T' h' _ rfl (X.old.1 ▸ X.old.2.1) (X.mk' X' e' X.fr (X.old.ext Ex) Ex.1) Ex ⟨_, A', e, l1, l2⟩ E')
theorem own_setKeep {h : Heap} {b : Addr} {cb cd : Cell} (q : h[b]? = some cb) (h1 : cd.cls = cb.cls) (h2 : cd.vm = cb.vm) (h3 : cd.slots.size = cb.slots.size) : Keep h (h.setIfInBounds b cd) [b] := by
  have hb := (Array.getElem?_eq_some_iff.mp q).1
  refine ⟨by simp, fun x c r n => ?_, fun x c r => ?_⟩
  · rw [Array.getElem?_setIfInBounds, if_neg (fun e => n (by rw [e]; exact List.mem_singleton.mpr rfl))]; exact r
  · rw [Array.getElem?_setIfInBounds]
    by_cases e : b = x
    · subst e
      cases q.symm.trans r
      exact ⟨cd, by simp [hb], h1, h2, h3⟩
    · exact ⟨c, by rw [if_neg e]; exact r, rfl, rfl, rfl⟩
theorem own_getD {c : Cell} {xs : List Value} (e : c.slots = xs.toArray) (i : Nat) : c.slots.getD i .null = xs.getD i .null := by
  rw [e]; simp [List.getD_eq_getElem?_getD, Array.getD_eq_getD_getElem?]
theorem own_copied {ca cb : Cell} {xs zs ys : List Value} {sp n : Int32} (ea : ca.slots = xs.toArray) (eb : cb.slots = zs.toArray) (h4 : zs.length = n.toNatClampNeg) (hy : (List.range n.toNatClampNeg).map (fun i => xs.getD (sp.toNatClampNeg + i) .null) = ys) : (copied ca cb sp 0 n).slots = ys.toArray := by
  have sz : cb.slots.size = n.toNatClampNeg := by rw [Ary.size eb, h4]
  have est : ca.stretch sp.toNatClampNeg n.toNatClampNeg = ys := by rw [← hy]; unfold Cell.stretch; exact List.map_congr_left fun i _ => own_getD ea _
  apply Array.ext_getElem?
  intro j
  show (cb.storeRun (0 : Int32).toNatClampNeg (ca.stretch sp.toNatClampNeg n.toNatClampNeg)).slots[j]? = _
  have hl : (ca.stretch sp.toNatClampNeg n.toNatClampNeg).length = n.toNatClampNeg := Cell.stretch_length _ _ _
  have z0 : (0 : Int32).toNatClampNeg = 0 := rfl
  rw [Cell.storeRun_get _ _ _ _ (by rw [hl, sz, z0]; omega), hl, z0]
  by_cases q : j < n.toNatClampNeg
  · rw [if_pos ⟨Nat.zero_le _, by omega⟩, est]; simp
  · rw [if_neg (by omega), Array.getElem?_eq_none (by omega)]
    have : ys.length = n.toNatClampNeg := by rw [← est, hl]
    simp [List.getElem?_eq_none (show ys.length ≤ j by omega)]
theorem w_cpB (X : Sd Z n0 kk code ml own nm ret h p l e R s m args below meth c T locs cells slots) {index : Nat} (hd : Dc code pc (.invokestatic index) 3 pc') (w1 : (Cond.methodLink own index Jvm.Stand.acN).before a0 Z = true) (w2 : (Cond.native Jvm.Stand.acN).before a0 Z = true) (w3 : (Cond.static Jvm.Stand.acN).before a0 Z = true) (w4 : (Cond.initialized "java/lang/System").before a0 Z = true) {a b : Addr} {ty : FieldType} (hty : refKind ty = false) {xs zs : List Value} {sp n : Int32} (ys : List Value) (A : Ary Z h a ty xs) (B : Ary Z h b ty zs) (gb : n0 ≤ b) (h1 : ¬ sp < 0) (h2 : ¬ n < 0) (h3 : sp.toNatClampNeg + n.toNatClampNeg ≤ xs.length) (h4 : zs.length = n.toNatClampNeg) (hy : (List.range n.toNatClampNeg).map (fun i => xs.getD (sp.toNatClampNeg + i) .null) = ys) (hsz : L.size = ml) (hf : 1 ≤ R.frames) (hl : (S.map fun v => v.category).sum + (nativeFrameWords "java/lang/System" "arraycopy" 5 + 11) ≤ R.locals) (K : ∀ T' h' L', Sd Z n0 kk code ml own nm ret h' p l e R s m args below meth c T' (locs ++ L') cells slots → Keep h h' [b] → Ary Z h' b ty ys → Wp p e below P (T'.setTop (mkF m pc' L S))) : Wp p e below P (T.setTop (mkF m pc L (.int n :: .int (0 : Int32) :: .ref b :: .int sp :: .ref a :: S))) := by
  obtain ⟨hd, rfl⟩ := hd
  obtain ⟨ca, A, ea, la, fa⟩ := A
  obtain ⟨cb, B, eb, lb, fb⟩ := B
  obtain ⟨os, ks, hks, sc, hsk⟩ := State.isArrayOf_alike X.hZ.alike A.2.1
  obtain ⟨od, kd, hkd, dc, hdk⟩ := State.isArrayOf_alike X.hZ.alike B.2.1
  have e1 : sp.toInt = sp.toNatClampNeg := by rw [Int32.lt_iff_toInt_lt, show (0 : Int32).toInt = 0 from rfl] at h1; simp only [Int32.toNatClampNeg]; omega
  have e2 : n.toInt = n.toNatClampNeg := by rw [Int32.lt_iff_toInt_lt, show (0 : Int32).toInt = 0 from rfl] at h2; simp only [Int32.toNatClampNeg]; omega
  have fx : ∀ i, i < n.toNatClampNeg → fits ty (xs.getD (sp.toNatClampNeg + i) .null) = true := fun i hi => by
    have q : sp.toNatClampNeg + i < xs.length := by omega
    rw [List.getD_eq_getElem?_getD, List.getElem?_eq_getElem q]
    exact fa _ (List.getElem_mem q)
  obtain ⟨vm1, hW, X', st⟩ := X.st.arraycopyK X.hx X.hown (mvT X.hZ w1) (mvT X.hZ w2) (mvT X.hZ w3) (mvT X.hZ w4) (src := a) (dst := b) (srcPos := sp) (destPos := 0) (n := n) (by rw [X.eh]; exact A.1) (by rw [X.eh]; exact B.1) os od A.2.2 B.2.2 hks hkd hsk hdk (by simp) h1 (by decide) h2 (by rw [e1, e2, Ary.size ea]; omega) (by rw [e2, Ary.size eb, h4, show (0 : Int32).toInt = 0 from rfl]; omega)
    (fun _ _ i hi => by rw [own_getD ea]; exact ⟨fx i hi, State.takes_of_prim _ _ hty (fx i hi)⟩) (g := mkF m pc L (.int n :: .int (0 : Int32) :: .ref b :: .int sp :: .ref a :: S)) rfl (by rw [X.hml]; exact hsz) rfl (X.hb hd) hf (by show 2 * 0 + _ + _ ≤ _; omega)
  obtain ⟨f1, f2, f3, -⟩ := Cell.storeRun_facts cb (0 : Int32).toNatClampNeg (ca.stretch sp.toNatClampNeg n.toNatClampNeg)
  have Kp : Keep h (h.setIfInBounds b (copied ca cb sp 0 n)) [b] := own_setKeep B.1 f1 f2 f3
  have hb := (Array.getElem?_eq_some_iff.mp B.1).1
  have eh' : ((T.setVm vm1).setCell b (copied ca cb sp 0 n)).heap = h.setIfInBounds b (copied ca cb sp 0 n) := by
    show T.heap.setIfInBounds b _ = _
    rw [X.eh]
  refine Wp.of st (K _ _ _ (X.mk' X' eh' (X.fr.app fun y hy => by obtain ⟨i, -, rfl⟩ := List.mem_map.mp hy; exact gb) (X.old.keep Kp fun x hx => by cases List.mem_singleton.mp hx; exact gb) Kp.1) Kp ⟨copied ca cb sp 0 n, ⟨by rw [Array.getElem?_setIfInBounds, if_pos rfl]; simp [hb], ⟨by rw [f2]; exact B.2.1.1, by rw [f1]; exact B.2.1.2⟩, by rw [f2]; exact B.2.2⟩, own_copied ea eb h4 hy, ?_, fun v hv => ?_⟩)
  · rw [← hy, List.length_map, List.length_range, ← h4]; exact lb
  · rw [← hy] at hv
    obtain ⟨i, hi, rfl⟩ := List.mem_map.mp hv
    exact fx i (List.mem_range.mp hi)
end StepsB
end Jvm.RoadKit
namespace Jvm.RoadKit
open Sem ClassFile Op Lib Jvm.Stand Jvm.Free Jvm.LawKit
/-- whoever is booked for the text t now was booked at the start, or is a String of that text at this heap -/
def Et (Z : State) (t : String) (h : Heap) (u : Vm) : Prop := ∀ (us : Array UInt16) (a : Addr), utf16ToString? us = some t → u.interned.find? (fun p => p.1 == us) = some (us, a) → Z.vm.interned.find? (fun p => p.1 == us) = some (us, a) ∨ SlOf (({ Z with heap := h } : State).setVm u) a us
theorem Et.ib {Z : State} {u : Vm} {h : Heap} {t : String} {Ts : List String} (I : IB Z u Ts) (hn : t ∉ Ts) : Et Z t h u := by
  obtain ⟨more, e, hm⟩ := I
  intro us a hus hf
  refine Or.inl ?_
  rw [e, Array.find?_append] at hf
  cases hs : Z.vm.interned.find? (fun p => p.1 == us) with
  | some pr => rw [hs] at hf; simpa using hf
  | none =>
    rw [hs, Option.none_or] at hf
    obtain ⟨t', ht, hd⟩ := hm _ (Array.mem_of_find?_eq_some hf)
    cases hus.symm.trans hd
    exact absurd ht hn
theorem Et.warm {Z s : State} {h : Heap} {u vm' : Vm} {t : String} (M : Et Z t h u) (hW : (s.setVm u).WarmedH vm') : Et Z t h vm' := fun us a hus hf => by
  have e : vm'.interned = u.interned := hW.interned_eq
  rw [e] at hf
  rcases M us a hus hf with q | q
  · exact Or.inl q
  · exact Or.inr (q.moved (W := (({ Z with heap := h } : State).setVm vm')) (show u.Alike vm' from hW.alike) fun _ _ r => r)
theorem Et.keep {Z : State} {h h' : Heap} {u : Vm} {t : String} (M : Et Z t h u) (K : Keep h h' []) : Et Z t h' u := fun us a hus hf => (M us a hus hf).imp id fun q => q.moved (W := (({ Z with heap := h' } : State).setVm u)) (Vm.Alike.refl _) fun b c r => K.2.1 b c r List.not_mem_nil
theorem Et.ext {Z : State} {h h' : Heap} {u : Vm} {t : String} (M : Et Z t h u) (E : Ext h h') : Et Z t h' u := fun us a hus hf => (M us a hus hf).imp id fun q => q.moved (W := (({ Z with heap := h' } : State).setVm u)) (Vm.Alike.refl _) fun b c r => E.2 b c r
theorem own_unitsEq {u1 u2 : Array UInt16} {t : String} (h1 : utf16ToString? u1 = some t) (h2 : utf16ToString? u2 = some t) (ht : ∀ c ∈ t.toList, c.toNat < 256) : u1 = u2 := Array.toList_inj.mp (by rw [Jvm.ClassFile.units_of_text h1 ht, Jvm.ClassFile.units_of_text h2 ht])
theorem own_heldT {Z s : State} {a0 : Array Value} {vm0 : Vm} {own t : String} {index : Nat} (hW : Z.Warmed39 vm0) (w : (Cond.stringLink own index t).before a0 Z = true) (hkeep : ∀ (b : Addr) (cl : Cell), Z.heap[b]? = some cl → s.heap[b]? = some cl) (hH : ConstHeldL Z own index) (M : Et Z t s.heap vm0) : ConstHeldL (s.setVm vm0) own index := by
  intro c k' cf i units a hc' hk' hcf' hp hu hor
  have hal : Z.vm.Alike vm0 := hW.alike
  have hc : Z.vm.findClass own = some c := by rw [← hal.findClass]; exact hc'
  obtain ⟨k, cf0, i0, units0, hk, hcf, hp0, hu0, hnm, htext, -⟩ := Cond.stringLink_spec hc w
  obtain ⟨k'', hk'', hke, -, ee, -⟩ := hW.2.2.2 c k hk
  cases (show vm0.classes[c]? = some k' from hk').symm.trans hk''
  have hcfk : k'.cf = k.cf := by rw [hke]
  cases (hcfk ▸ hcf').symm.trans hcf
  cases hp.symm.trans hp0
  cases hu.symm.trans hu0
  have old : SlOf Z a units → SlOf (s.setVm vm0) a units := fun q => q.moved (W := s.setVm vm0) hal hkeep
  have fnd : ∀ a, k.resolved[index]? = some none → vm0.interned.find? (fun p => p.1 == units) = some (units, a) → SlOf (s.setVm vm0) a units := fun a h0 hf => by
    rcases M units a htext hf with q | q
    · exact (hH c k cf i units a hc hk hcf hp hu (Or.inr ⟨h0, q⟩)).moved (W := s.setVm vm0) hal hkeep
    · exact q.moved (W := s.setVm vm0) (Vm.Alike.refl _) fun _ _ r => r
  rcases ee index with e0 | ⟨hop, r, e1, hr | ⟨a3, t, si, us, rfl, -, q3, q4, q5⟩⟩
  · rcases hor with h0 | ⟨h0, hf⟩
    · exact old (hH c k cf i units a hc hk hcf hp hu (Or.inl (e0 ▸ h0)))
    · exact fnd a (e0 ▸ h0) hf
  · exfalso
    cases r <;> simp [State.rightAt, hk, hcf, hnm] at hr
  · rw [hcf] at q3 q4
    have e3 : si = i := by simpa using q3.symm.trans hp
    subst e3
    have e4 : us = units := by simpa [ConstantPool.utf8?, hu] using q4.symm
    subst e4
    rcases hor with h0 | ⟨h0, -⟩
    · have ea : a3 = a := by simpa using e1.symm.trans h0
      subst ea
      exact fnd a3 hop q5
    · have := e1.symm.trans h0
      simp at this
theorem own_slT {Z W : State} (hal : Z.vm.Alike W.vm) {a : Addr} {units : Array UInt16} {t : String} {vs : List Value} (htext : utf16ToString? units = some t) (ht : (∀ c ∈ t.toList, c.toNat < 256) ∧ t.toList.map (fun c => Value.int (Jvm.Lit.byteI c.toNat.toUInt16)) = vs) (hin : SlOf W a units) : ∃ b, Exa Z W.heap a "java/lang/String" ∧ Fld Z W.heap a "java/lang/String" "coder" "B" (.int 0) ∧ Fld Z W.heap a "java/lang/String" "value" "[B" (.ref b) ∧ Ary Z W.heap b .byte vs ∧ Exa Z W.heap b "[B" := by
  obtain ⟨q, cS, hqa, ⟨⟨s1, s2, s3, ⟨cv, kv, iv, s4, s4'⟩, ⟨cc, kc, ic, s5, s5'⟩, s6, s7, s8, s9, s10, s11, s12, s13, s14, s15, s16⟩, hfS, hcS⟩, ⟨kS, k1, k2, k3⟩, hB, hbyt⟩ := hin
  subst hqa
  obtain ⟨kv', z4⟩ := ff_back hal s4
  obtain ⟨kc', z5⟩ := ff_back hal s5
  have hfZ : Z.vm.findClass "java/lang/String" = some q.sC.cls := by rw [← hal.findClass, hcS]; exact hfS
  obtain ⟨kz, hkz, -⟩ := Vm.findClass_spec hfZ
  obtain ⟨kz', hkz', ekz⟩ := hal.2.2 _ _ hkz
  have ekS : kz' = kS := Option.some.inj (hkz'.symm.trans (hcS ▸ k1))
  have hBZ : Z.vm.findClass "[B" = some q.SA.cls := by rw [← hal.findClass]; exact hB
  obtain ⟨kb, hkb, -⟩ := Vm.findClass_spec hBZ
  obtain ⟨kb', hkb', ekb⟩ := hal.2.2 _ _ hkb
  obtain ⟨hst, k9, hk9, comp, hkind9⟩ := s11
  have ek9 : k9 = kb' := Option.some.inj (hk9.symm.trans hkb')
  have hAZ : Z.isArrayOf q.SA .byte := ⟨hst, kb, hkb, comp, by rw [ek9, ekb] at hkind9; exact hkind9⟩
  have hlat := Jvm.ClassFile.lat_of_text htext ht.1
  have eu : vs = units.toList.map fun u => Value.int (Jvm.Lit.byteI u) := by rw [← ht.2, Jvm.ClassFile.units_of_text htext ht.1, List.map_map]; rfl
  have hsl : q.SA.slots = vs.toArray := by
    rw [hbyt, SBG.stringBytes_lat hlat, eu]
    apply Array.toList_inj.mp
    simp [byteValue, Jvm.Lit.byteI]
  exact ⟨q.sd, ⟨q.sC, kz, s1, hfZ, hkz, s3, fun ho => by rw [k3, ← ekS, ekz]⟩, ⟨q.sC, cc, kc', ic, q.fSC, s1, z5, s7, s2, s3, by rw [← hal.assignable]; exact s5', s9⟩, ⟨q.sC, cv, kv', iv, q.fSV, s1, z4, s6, s2, s3, by rw [← hal.assignable]; exact s4', s8⟩, ⟨q.SA, ⟨s10, hAZ, s12⟩, hsl, by have := Ary.size hsl; omega, fun v hv => by
    obtain ⟨i, hi, rfl⟩ := List.getElem_of_mem hv
    have e := s16 i (by rw [Ary.size hsl]; exact hi)
    rw [own_getD hsl] at e
    simpa [List.getD_eq_getElem?_getD, List.getElem?_eq_getElem hi] using e⟩, ⟨q.SA, kb, s10, hBZ, hkb, (by cases hq : q.SA.vm <;> first | rfl | exact absurd hq (hst _)), fun ho => by rw [ek9, ekb] at hkind9; rw [show kb.kind = .array comp .byte from hkind9] at ho; cases ho⟩⟩
theorem own_slC {Z W W' : State} (hal : Z.vm.Alike W.vm) {a : Addr} {units : Array UInt16} {t : String} {vs : List Value} (htext : utf16ToString? units = some t) (ht : (∀ c ∈ t.toList, c.toNat < 256) ∧ t.toList.map (fun c => Value.int (Jvm.Lit.byteI c.toNat.toUInt16)) = vs) (hin : SlOf W a units) : ∃ b, (Exa Z W.heap a "java/lang/String" ∧ Fld Z W.heap a "java/lang/String" "coder" "B" (.int 0) ∧ Fld Z W.heap a "java/lang/String" "value" "[B" (.ref b) ∧ Ary Z W.heap b .byte vs) ∧ (W.vm.Alike W'.vm → (∀ c, W.heap[a]? = some c → W'.heap[a]? = some c) → (∀ c, W.heap[b]? = some c → W'.heap[b]? = some c) → SlOf W' a units) := by
  have hin0 := hin
  obtain ⟨q, cS, h1, h2, ⟨kS, k1, k2, k3⟩, h4, h5⟩ := hin0
  obtain ⟨b, f1, f2, f3, f4, -⟩ := own_slT hal htext ht hin
  have eb : b = q.sd := by
    obtain ⟨⟨s1, s2, s3, ⟨cv, kv, iv, s4, s4'⟩, -, s6, -, s8, -⟩, -, -⟩ := h2
    obtain ⟨kv', z4⟩ := ff_back hal s4
    obtain ⟨cc, cf, kf, ii, ff, g1, g2, g3, g4, g5, g6, g7⟩ := f3
    subst h1
    cases s1.symm.trans g1
    cases z4.symm.trans g2
    have := s8.symm.trans g7
    simpa using this.symm
  subst eb
  refine ⟨q.sd, ⟨f1, f2, f3, f4⟩, fun hal' ka kb => ?_⟩
  obtain ⟨kS', hk', ek⟩ := hal'.2.2 _ _ k1
  subst h1
  exact ⟨q, cS, rfl, h2.carry hal' (ka _ h2.1.1) (kb _ h2.1.2.2.2.2.2.2.2.2.2.1), ⟨kS', hk', by rw [ek]; exact k2, by rw [ek]; exact k3⟩, by rw [hal'.findClass]; exact h4, h5⟩
theorem Et.keepA {Z : State} {h h' : Heap} {u : Vm} {t : String} {a : Addr} {a0 : Array Value} {k : Nat} (M : Et Z t h u) (ht : ∀ c ∈ t.toList, c.toNat < 256) (hal : Z.vm.Alike u) (K : Keep h h' [a]) (E : Exa Z h a "java/lang/String") (F : Fld Z h a "java/lang/String" "value" "[B" .null) (wi : (Cond.instantiable "java/lang/String" k).before a0 Z = true) : Et Z t h' u := fun us x hus hf => (M us x hus hf).imp id fun q => by
  obtain ⟨b, ⟨f1, f2, f3, f4⟩, C⟩ := own_slC (Z := Z) (W' := (({ Z with heap := h' } : State).setVm u)) hal hus ⟨ht, rfl⟩ q
  have n1 : x ≠ a := own_fne f3 F (by nofun)
  have n2 : b ≠ a := Ne.symm (own_ane E wi f4)
  exact C (Vm.Alike.refl _) (fun c r => K.2.1 x c r (by simpa using n1)) (fun c r => K.2.1 b c r (by simpa using n2))
theorem Et.keepC {Z : State} {h h' : Heap} {u : Vm} {t C : String} {a : Addr} {a0 : Array Value} {k : Nat} (M : Et Z t h u) (ht : ∀ c ∈ t.toList, c.toNat < 256) (hal : Z.vm.Alike u) (K : Keep h h' [a]) (E : Exa Z h a C) (hC : C ≠ "java/lang/String") (wi : (Cond.instantiable C k).before a0 Z = true) : Et Z t h' u := fun us x hus hf => (M us x hus hf).imp id fun q => by
  obtain ⟨b, ⟨f1, f2, f3, f4⟩, Cc⟩ := own_slC (Z := Z) (W' := (({ Z with heap := h' } : State).setVm u)) hal hus ⟨ht, rfl⟩ q
  have n1 : x ≠ a := fun r => by
    subst r
    obtain ⟨c1, k1, h1, h2, -⟩ := E
    obtain ⟨c2, k2, g1, g2, -⟩ := f1
    cases h1.symm.trans g1
    obtain ⟨k3, e1, e2⟩ := Vm.findClass_spec h2
    obtain ⟨k4, d1, d2⟩ := Vm.findClass_spec g2
    cases e1.symm.trans d1
    exact hC (e2.symm.trans d2)
  have n2 : b ≠ a := Ne.symm (own_ane E wi f4)
  exact Cc (Vm.Alike.refl _) (fun c r => K.2.1 x c r (by simpa using n1)) (fun c r => K.2.1 b c r (by simpa using n2))
/-- the facts of a Latin-1 String, said as the library's SlOf -/
theorem own_slOf {Z W : State} (hal : Z.vm.Alike W.vm) {a b : Addr} {a0 : Array Value} {us : Array UInt16} {t : String} {vs : List Value} (hus : utf16ToString? us = some t) (ht : (∀ c ∈ t.toList, c.toNat < 256) ∧ t.toList.map (fun c => Value.int (Jvm.Lit.byteI c.toNat.toUInt16)) = vs) (wi : (Cond.instantiable "java/lang/String" 4).before a0 Z = true)
    (E : Exa Z W.heap a "java/lang/String") (FC : Fld Z W.heap a "java/lang/String" "coder" "B" (.int 0)) (FV : Fld Z W.heap a "java/lang/String" "value" "[B" (.ref b)) (A : Ary Z W.heap b .byte vs) (EB : Exa Z W.heap b "[B") : SlOf W a us := by
  have hlat := Jvm.ClassFile.lat_of_text hus ht.1
  have eu : vs = us.toList.map fun u => Value.int (Jvm.Lit.byteI u) := by rw [← ht.2, Jvm.ClassFile.units_of_text hus ht.1, List.map_map]; rfl
  have nab : a ≠ b := own_ane E wi A
  obtain ⟨cE, kE, hcE, hfE, hkE, hstE, hordE⟩ := E
  obtain ⟨cell1, cf1, kf1, i1, fc, g1, g2, g3, g4, g5, g6, g7⟩ := FC
  obtain ⟨cell2, cf2, kf2, i2, fv, v1, v2, v3, v4, v5, v6, v7⟩ := FV
  cases hcE.symm.trans g1
  cases hcE.symm.trans v1
  obtain ⟨SA, A1, A2, A3, A4⟩ := A
  obtain ⟨cB, kB, hcB, hfB, hkB, -, -⟩ := EB
  cases A1.1.symm.trans hcB
  obtain ⟨cI, kI, hfI, hkI, hkindI, -⟩ := Cond.instantiable_spec wi
  cases hfE.symm.trans hfI
  cases hkE.symm.trans hkI
  obtain ⟨kE', hkE', eE⟩ := hal.2.2 _ _ hkE
  obtain ⟨kv', zv, -⟩ := State.fieldFound?_setVm (s := Z) hal v2
  obtain ⟨kc', zc, -⟩ := State.fieldFound?_setVm (s := Z) hal g2
  refine ⟨(a, cE, fv, fc, b, SA, SA.slots.size), cE.cls, rfl, ⟨⟨hcE, g4, g5, ⟨cf2, kv', i2, zv, by rw [hal.assignable]; exact v6⟩, ⟨cf1, kc', i1, zc, by rw [hal.assignable]; exact g6⟩, v3, g3, v7, g7, A1.1, State.isArrayOf_alike hal A1.2.1, A1.2.2, rfl, by rw [Ary.size A2]; exact A3, nab, fun i hi => ?_⟩, by rw [hal.findClass]; exact hfE, rfl⟩, ⟨kE', hkE', by rw [eE]; exact hkindI, by rw [eE]; exact hordE hkindI⟩, by rw [hal.findClass]; exact hfB, ?_⟩
  · have hi0 : i < SA.slots.size := hi
    have hi' : i < vs.length := by have := Ary.size A2; omega
    rw [own_getD A2, List.getD_eq_getElem?_getD, List.getElem?_eq_getElem hi']
    exact A4 _ (List.getElem_mem hi')
  · show SA.slots = _
    rw [A2, SBG.stringBytes_lat hlat, eu]
    apply Array.toList_inj.mp
    simp [byteValue, Jvm.Lit.byteI]
/-- a load of the text t leaves what is known of another text -/
theorem own_otherT {Z : State} {h h' : Heap} {u u' : Vm} {t t' : String} (M : Et Z t' h u) (E : Ext h h') (hal : u.Alike u') (hne : t' ≠ t) (hint : u'.interned = u.interned ∨ ∃ (us : Array UInt16) (a' : Addr), utf16ToString? us = some t ∧ u'.interned = u.interned.push (us, a')) : Et Z t' h' u' := by
  intro us a hus hf
  have mv2 : SlOf (({ Z with heap := h } : State).setVm u) a us → SlOf (({ Z with heap := h' } : State).setVm u') a us := fun q => q.moved (W := (({ Z with heap := h' } : State).setVm u')) hal (fun x c r => E.2 x c r)
  rcases hint with hi | ⟨us', a', hus', hi⟩
  · rw [hi] at hf
    exact (M us a hus hf).imp id mv2
  · rw [hi, Array.find?_push] at hf
    cases hq : u.interned.find? (fun p => p.1 == us) with
    | some pr => rw [hq] at hf; exact (M us a hus (by rw [hq]; simpa using hf)).imp id mv2
    | none =>
      rw [hq] at hf
      by_cases q : us' = us
      · subst q; exact absurd (Option.some.inj (hus.symm.trans hus')) hne
      · simp [q] at hf
section StepsX
variable {Z : State} {n0 kk : Nat} {code : ByteArray} {ml : Nat} {own nm : String} {ret : Option FieldType} {h : Heap} {p : Program} {l : Launch} {e : Env} {R : Room} {s : State} {m : MethodId} {args : Array Value} {below : List Frame} {meth : Method} {c : Code} {T : State} {locs : List Loc} {cells slots : Nat} {P : State → Outcome → Prop} {a0 : Array Value} {u : Vm} {pc pc' : Nat} {L : Array Slot} {S : List Value}
theorem v_ldcX (X : Sd Z n0 kk code ml own nm ret h p l e R (s.setVm u) m args below meth c T locs cells slots) (Y : s.Since u kk) {index : Nat} {t : String} (hd : Dc code pc (.ldc index) 2 pc') (w1 : (Cond.stringLink own index t).before a0 Z = true) (wS : ∀ a ∈ Bundle.stringAtoms, a.before a0 Z = true) (hold : ∀ (b : Addr) (cl : Cell), s.heap[b]? = some cl → h[b]? = some cl) (hkeep : ∀ (b : Addr) (cl : Cell), Z.heap[b]? = some cl → s.heap[b]? = some cl) (M0 : Et Z t s.heap u) (M : Et Z t h u) (hh : Jvm.Lit.constHeld Z own index) (hcw : Jvm.Lit.compactW.before a0 Z = true) (vs : List Value) (ht : (∀ c ∈ t.toList, c.toNat < 256) ∧ t.toList.map (fun c => Value.int (Jvm.Lit.byteI c.toNat.toUInt16)) = vs) (n : Nat) (hn : 4 * t.toList.length ≤ n) (hbig : n ≤ 536870912) (hc : cells + 2 ≤ R.cells) (hl : slots + (n + 4) ≤ R.slots) (K : ∀ T' h' u' kk' a b, Sd Z n0 kk' code ml own nm ret h' p l e R (s.setVm u') m args below meth c T' locs (cells + 2) (slots + (n + 4)) → s.Since u' kk' → Ext h h' → Exa Z h' a "java/lang/String" → Fld Z h' a "java/lang/String" "coder" "B" (.int 0) → Fld Z h' a "java/lang/String" "value" "[B" (.ref b) → Ary Z h' b .byte vs → Et Z t h' u' → (∀ t', t' ≠ t → Et Z t' h u → Et Z t' h' u') → Lit (s.setVm u') own index a → (Exa Z h' b "[B" ∧ (∀ (us : Array UInt16) (a2 : Addr), utf16ToString? us = some t → u'.interned.find? (fun p => p.1 == us) = some (us, a2) → u.interned.find? (fun p => p.1 == us) = some (us, a2) ∨ a2 = a) ∧ (∀ (t' : String) (us : Array UInt16), t' ≠ t → utf16ToString? us = some t' → u'.interned.find? (fun p => p.1 == us) = u.interned.find? (fun p => p.1 == us)) ∧ u.Alike u') → Wp p e below P (T'.setTop (mkF m pc' L (.ref a :: S)))) : Wp p e below P (T.setTop (mkF m pc L S)) := by
  obtain ⟨hd, rfl⟩ := hd
  have holdT : ∀ (b : Addr) (cl : Cell), (s.setVm u).heap[b]? = some cl → T.heap[b]? = some cl := by rw [X.eh]; exact hold
  have wi : (Cond.instantiable "java/lang/String" 4).before a0 Z = true := wS _ (by simp [Bundle.stringAtoms, Bundle.sN])
  have wa : (Cond.arrayClass .byte).before a0 Z = true := wS _ (by simp [Bundle.stringAtoms])
  have hH : ConstHeldL (s.setVm u) own index := own_heldT X.hZ w1 hkeep (heldStart hh w1 ht.1 hcw wa wi) M0
  have hlk := mvS (args := args) (s := s.setVm u) X.hZ w1
  obtain ⟨k0, cf, i0, units0, hk0, hcf, hp0, hu0, hnm, htext0, hres⟩ := Cond.stringLink_spec X.hown hlk
  by_cases q : ∃ a, Lit (s.setVm u) own index a
  · obtain ⟨a, La⟩ := q
    have rr : k0.resolved[index]? = some (some (.string a)) := by
      have La' : (s.setVm u).resolvedAt? own index = some (.string a) := La
      have ho : u.findClass own = some m.cls := X.hown
      have hk1 : u.classes[m.cls]? = some k0 := hk0
      rcases hres with h0 | ⟨a1, h0⟩
      · simp [State.resolvedAt?, ho, hk1, h0] at La'
      · simp [State.resolvedAt?, ho, hk1, h0] at La'
        rw [h0, La']
    have sl : SlOf (s.setVm u) a units0 := hH _ k0 cf i0 units0 a X.hown hk0 hcf hp0 hu0 (Or.inl rr)
    have slT : SlOf T a units0 := sl.moved (W := T) X.st.warmed.alike holdT
    obtain ⟨b, r1, r2, r3, r4, r5⟩ := own_slT (Z := Z) (X.hZ.alike.trans X.st.warmed.alike) htext0 ht slT
    rw [X.eh] at r1 r2 r3 r4 r5
    exact Wp.of (fun _ k => ldcAgain (s := s) X.st X.hx X.hZ X.hown w1 La (g := mkF m pc L S) rfl (X.hb hd) _ k) (K T h u kk a b ⟨X.1.more (Nat.le_add_right _ _) (Nat.le_add_right _ _), X.2⟩ Y ⟨Nat.le_refl _, fun _ _ r => r⟩ r1 r2 r3 r4 M (fun _ _ r => r) La ⟨r5, fun _ _ _ r => Or.inl r, fun _ _ _ _ => rfl, Vm.Alike.refl _⟩)
  · obtain ⟨a, T', X', hS', ⟨kq, hkk, hrr⟩, hb, -, hint, ⟨units, htext, hin⟩, st⟩ := X.st.ldcColdF holdT X.hx (own := own) X.hown hlk (fun d hd => by
      have q := wS d hd
      simp only [Bundle.stringAtoms, List.mem_cons, List.not_mem_nil, or_false] at hd
      rcases hd with rfl | rfl | rfl | rfl | rfl | rfl | rfl
      · exact mv (s := s.setVm u) X.hZ q
      · exact mv (s := s.setVm u) X.hZ q
      · exact mvA (s := s.setVm u) X.hZ q
      · exact mv (s := s.setVm u) X.hZ q
      · exact mv (s := s.setVm u) X.hZ q
      · exact mv (s := s.setVm u) X.hZ q
      · exact mv (s := s.setVm u) X.hZ q) hH (fun units hu => Jvm.ClassFile.lat_of_text hu ht.1) (g := mkF m pc L S) rfl (X.hb hd) (n := n) hn hbig hc hl
    obtain rfl := own_unitsEq htext htext0 ht.1
    have E : Ext h T'.heap := X.eh ▸ ext_of hb
    have hW : Z.Warmed39 T'.vm := State.Warmed39.trans (t := s.setVm u) X.hZ hS'.1
    have sl : SlOf T' a units := by obtain ⟨q1, q2, h1, h2, h3, h4, h5, -⟩ := hin; exact ⟨q1, q2, h1, h2, h3, h4, h5⟩
    obtain ⟨b, r1, r2, r3, r4, r5⟩ := own_slT (Z := Z) hW.alike htext ht sl
    have hTi : T.vm.interned = u.interned := X.st.warmed.interned_eq
    have hfn : T'.vm.findClass own = some m.cls := by rw [hS'.1.alike.findClass]; exact X.hown
    have La : Lit (s.setVm T'.vm) own index a := by simp [Lit, State.resolvedAt?, hfn, hkk, hrr]
    have hal' : u.Alike T'.vm := hS'.1.alike
    rw [hTi] at hint
    have hNew : ∀ (us : Array UInt16) (a2 : Addr), utf16ToString? us = some t → T'.vm.interned.find? (fun p => p.1 == us) = some (us, a2) → u.interned.find? (fun p => p.1 == us) = some (us, a2) ∨ a2 = a := by
      intro us a2 hus2 hf
      obtain rfl := own_unitsEq hus2 htext ht.1
      rcases hint with hi | ⟨us', a', hus, hi⟩
      · rw [hi] at hf
        exact Or.inl hf
      · obtain rfl := own_unitsEq hus htext ht.1
        have hf0 := hf
        rw [hi, Array.find?_push] at hf
        cases hq : u.interned.find? (fun p => p.1 == us') with
        | some pr => rw [hq] at hf; exact Or.inl (by simpa using hf)
        | none =>
          obtain ⟨k2, hk2, -, -, ee, -⟩ := hS'.1.2.2.2 m.cls k0 hk0
          cases hkk.symm.trans hk2
          rcases ee index with e0 | ⟨-, r, e1, hr | ⟨a3, t, si, us, rfl, -, q3, q4, q5⟩⟩
          · refine absurd ⟨a, ?_⟩ q
            have ho : u.findClass own = some m.cls := X.hown
            have hk1 : u.classes[m.cls]? = some k0 := hk0
            simp [Lit, State.resolvedAt?, ho, hk1, e0.symm.trans hrr]
          · exfalso
            have hk1 : u.classes[m.cls]? = some k0 := hk0
            cases r <;> simp [State.rightAt, hk1, hcf, hnm] at hr
          · rw [hcf] at q3 q4
            have e3 : si = i0 := by simpa using q3.symm.trans hp0
            subst e3
            have e4 : us = us' := by simpa [ConstantPool.utf8?, hu0] using q4.symm
            subst e4
            have e5 : a3 = a := by simpa using e1.symm.trans hrr
            have e6 : a3 = a2 := by simpa using q5.symm.trans hf0
            exact Or.inr (e6.symm.trans e5)
    have hOth : ∀ (t' : String) (us : Array UInt16), t' ≠ t → utf16ToString? us = some t' → T'.vm.interned.find? (fun p => p.1 == us) = u.interned.find? (fun p => p.1 == us) := by
      intro t' us hne hus
      rcases hint with hi | ⟨us', a', hus', hi⟩
      · rw [hi]
      · rw [hi, Array.find?_push]
        have n : us' ≠ us := fun q => hne (by subst q; exact Option.some.inj (hus.symm.trans hus'))
        simp [n]
    have M' : Et Z t T'.heap T'.vm := by
      intro us a2 hus2 hf
      rcases hNew us a2 hus2 hf with hf | rfl
      · exact (M us a2 hus2 hf).imp id fun q => q.moved (W := (({ Z with heap := T'.heap } : State).setVm T'.vm)) hal' (fun x c r => E.2 x c r)
      · obtain rfl := own_unitsEq hus2 htext ht.1
        exact Or.inr (sl.moved (W := (({ Z with heap := T'.heap } : State).setVm T'.vm)) (Vm.Alike.refl _) fun _ _ r => r)
    exact Wp.of st (K T' T'.heap T'.vm T'.heap.size a b ⟨X', ⟨X.hx, X.2.1.2.1, X.hml, hfn, hW, X.hret, X.hnm, X.hlk⟩, rfl, X.fr, X.old.ext E, Nat.le_refl _⟩ (Y.trans hS' (Nat.le_trans X.hkk E.1)) E r1 r2 r3 r4 M' (fun t' hne M2 => own_otherT M2 E hal' hne hint) La ⟨r5, hNew, hOth, hal'⟩)
end StepsX
end Jvm.RoadKit
namespace Jvm.RoadKit
open Sem ClassFile Op Lib Jvm.Stand Jvm.Free Jvm.LawKit Bundle Jvm.Free.Exc
/-- a private method called on an object of a subclass -/
theorem own_selP {Z : State} {a0 : Array Value} {C : String} {y : MethodName} (ws : (Cond.selects C y y).before a0 Z = true) (wp : (Cond.privateMethod y).before a0 Z = true) (w2 : (Cond.instanceMethod y).before a0 Z = true) (hy : y.cls ≠ "java/lang/invoke/MethodHandle" ∧ y.cls ≠ "java/lang/invoke/VarHandle") : (Cond.selects y.cls y y).before a0 Z = true := by
  obtain ⟨c2, r2, m2, -, -, q3, -, kP, hkP, hkPi⟩ := Cond.selects_spec ws
  exact selects_self_of_private (c := m2.cls) (k := kP) (findClass_of_methodNamed q3) hkP hkPi (Cond.privateMethod_at wp) w2 hy
/-- zs, but from place k on ws -/
def own_spl (zs : List Value) (k : Nat) (ws : List Value) : List Value := zs.take k ++ ws ++ zs.drop (k + ws.length)
theorem own_splLen {zs ws : List Value} {k : Nat} (h : k + ws.length ≤ zs.length) : (own_spl zs k ws).length = zs.length := by
  simp only [own_spl, List.length_append, List.length_take, List.length_drop]; omega
theorem own_splAt {zs ws : List Value} {k j : Nat} (h : k + ws.length ≤ zs.length) : (own_spl zs k ws)[j]? = if k ≤ j ∧ j < k + ws.length then ws[j - k]? else zs[j]? := by
  unfold own_spl
  have e : (zs.take k).length = k := by rw [List.length_take]; omega
  by_cases a : j < k
  · rw [if_neg (by omega), List.append_assoc, List.getElem?_append_left (by omega), List.getElem?_take, if_pos a]
  · by_cases b : j < k + ws.length
    · rw [if_pos ⟨by omega, b⟩, List.getElem?_append_left (by rw [List.length_append]; omega), List.getElem?_append_right (by omega), e]
    · rw [if_neg (by omega), List.getElem?_append_right (by rw [List.length_append]; omega), List.getElem?_drop]
      congr 1
      rw [List.length_append]; omega
theorem own_splMem {zs ws : List Value} {k : Nat} {v : Value} (h : v ∈ own_spl zs k ws) : v ∈ zs ∨ v ∈ ws := by
  unfold own_spl at h
  rcases List.mem_append.mp h with h | h
  · rcases List.mem_append.mp h with h | h
    · exact Or.inl (List.mem_of_mem_take h)
    · exact Or.inr h
  · exact Or.inl (List.mem_of_mem_drop h)
theorem own_copiedM {ca cb : Cell} {xs zs : List Value} {dp n : Int32} (ea : ca.slots = xs.toArray) (eb : cb.slots = zs.toArray) (hn : n.toNatClampNeg = xs.length) (h : dp.toNatClampNeg + xs.length ≤ zs.length) : (copied ca cb 0 dp n).slots = (own_spl zs dp.toNatClampNeg xs).toArray := by
  have est : ca.stretch (0 : Int32).toNatClampNeg n.toNatClampNeg = xs := by
    unfold Cell.stretch
    rw [hn, show (0 : Int32).toNatClampNeg = 0 from rfl]
    apply List.ext_getElem?
    intro i
    rw [List.getElem?_map]
    by_cases q : i < xs.length
    · rw [List.getElem?_range q]; simp only [Option.map_some, Nat.zero_add]; rw [own_getD ea, List.getD_eq_getElem?_getD, List.getElem?_eq_getElem q]; rfl
    · rw [List.getElem?_eq_none (show (List.range xs.length).length ≤ i by rw [List.length_range]; omega), List.getElem?_eq_none (show xs.length ≤ i by omega)]; rfl
  apply Array.ext_getElem?
  intro j
  show (cb.storeRun dp.toNatClampNeg (ca.stretch (0 : Int32).toNatClampNeg n.toNatClampNeg)).slots[j]? = _
  rw [est, Cell.storeRun_get _ _ _ _ (by rw [Ary.size eb]; exact h)]
  rw [eb]
  simp only [List.getElem?_toArray]
  rw [own_splAt h]
/-- a contract that asks that the tables' methods and the frames beneath are known -/
def DoesK (l : Launch) (Z : State) (n0 : Nat) (G : Vm → Prop) (y : MethodName) (code : ByteArray) (ml : Nat) (ret : Option FieldType) (rm : Room) (as' : Array Value) (h0 : Heap) (Q : Option Value → Heap → Vm → Prop) : Prop :=
  Old Z n0 h0 → MetFree l y (head1 [Cond.code y code ml ret] rm) (fun a U => a = as' ∧ Z.Warmed39 U.vm ∧ U.heap = h0 ∧ G U.vm) (fun _ _ bl s _ => s.vm.MethodsKnown ∧ s.vm.FramesKnown bl) (fun _ U o U' => ∃ v L, o = .returned v ∧ (Fr n0 L ∧ Old Z n0 U'.heap ∧ h0.size ≤ U'.heap.size ∧ Q v U'.heap U'.vm) ∧ ReturnedEndW U o U' L rm.cells rm.slots)
theorem DoesK.start {l : Launch} {Z : State} {n0 : Nat} {G : Vm → Prop} {y : MethodName} {code : ByteArray} {ml : Nat} {ret : Option FieldType} {rm : Room} {as' : Array Value} {h0 : Heap} {Q : Option Value → Heap → Vm → Prop} (hp : plainFor y = true)
    (body : ∀ p e s m below meth c s₁, Sd Z n0 0 code ml y.cls y.name ret h0 p l e rm (s.setVm s.vm) m as' below meth c s₁ [] 0 0 → s.Since s.vm 0 → s.heap = h0 → G s.vm → s.vm.MethodsKnown ∧ s.vm.FramesKnown below → Wp p e below (PoG Z n0 s Q rm.cells rm.slots) (s₁.setTop (entryFrame m as' ml))) : DoesK l Z n0 G y code ml ret rm as' h0 Q := by
  intro hold
  refine MetFree.of_bodySF hp hisR ?_
  intro p e s m args below meth c s₁ Bd hml0 hP hK
  obtain ⟨rfl, hZ, hh, hG⟩ := hP
  subst hh
  exact body p e s m below meth c s₁ ⟨Stand.of_body Bd, ⟨Bd.exec, Bd.bytes, hml0, findClass_of_methodNamed Bd.named, hZ, Bd.returns, (name_of_methodNamed Bd.named Bd.method).1, Bd.notSynchronized⟩, by rw [Bd.state]; rfl, Fr.nil n0, hold, Nat.zero_le _⟩ ((State.WarmedH.refl s).since 0) rfl hG hK
theorem own_backK {p : Program} {l : Launch} {e : Env} {R : Room} {s : State} {args : Array Value} {below : List Frame} {Z : State} {a0 : Array Value} {h : Heap} {G : Vm → Prop} {y : MethodName} {bytes : ByteArray} {maxL : Nat} {ret : Option FieldType} {rm : Room} {len W : Nat} {as' : Array Value} {Q : Option Value → Heap → Vm → List Loc → Prop}
    (hM : MetFree l y (head1 [Cond.code y bytes maxL ret] rm) (fun a U => a = as' ∧ Z.Warmed39 U.vm ∧ U.heap = h ∧ G U.vm) (fun _ _ bl s _ => s.vm.MethodsKnown ∧ s.vm.FramesKnown bl) (fun _ U o U' => ∃ v L, o = .returned v ∧ Q v U'.heap U'.vm L ∧ ReturnedEndW U o U' L rm.cells rm.slots))
    (hG : ∀ vm', s.WarmedH vm' → G vm') (hTK : s.vm.MethodsKnown ∧ s.vm.FramesKnown below) (hZ : Z.Warmed39 s.vm) (wc : (Cond.code y bytes maxL ret).before a0 Z = true) (wz : (Cond.initialized y.cls).before a0 Z = true) (hf : rm.frames + 1 ≤ R.frames) (hl : W + (maxL + 11) + rm.locals ≤ R.locals) :
    BackS l R p e below s args y len W (fun A a => a = as' ∧ A.U.heap = h ∧ A.cells + rm.cells ≤ R.cells ∧ A.slots + rm.slots ≤ R.slots)
      (fun A _ v B => ∃ L, Q v B.U.heap B.U.vm L ∧ B.locs = A.locs ++ L ∧ B.cells = A.cells + rm.cells ∧ B.slots = A.slots + rm.slots) :=
  BackS.of_freeWG (bytes := bytes) (maxL := maxL) (ret := ret) (E := fun _ _ o t L k n => k = rm.cells ∧ n = rm.slots ∧ ∃ v, o = .returned v ∧ Q v t.heap t.vm L) hM hf hl
    (fun m meth c A a Y hp => have hU : Z.Warmed39 A.U.vm := wtrans hZ Y.warmed
      ⟨by show (Cond.and _ .tt).before a A.U = true; rw [Cond.before_and, mv hU wc]; rfl, mv hU wc, mv hU wz, hp.2.2.1, hp.2.2.2⟩)
    (fun m meth c A a g mk Y hp => ⟨hp.1, wtrans hZ Y.warmed, hp.2.1, hG _ Y.warmed⟩)
    (fun m meth c A a g mk Y _ hg => known_frames Y hg hTK.1 hTK.2)
    (fun _ _ _ _ ⟨v, L, h1, h2, h3⟩ => ⟨L, _, _, h3, rfl, rfl, v, h1, h2⟩)
    (fun m meth c A a g mk v t L k n Y hp _ _ ⟨e1, e2, v', e3, e4⟩ => by cases e3; subst e1 e2; exact ⟨L, e4, rfl, rfl, rfl⟩)
/-- the law's own contract, where the frames beneath are known -/
def DoesLK (l : Launch) (Z : State) (n0 : Nat) (y : MethodName) (code : ByteArray) (ml : Nat) (ret : Option FieldType) (ws : List Cond) (rm : Room) (as' : Array Value) (Q : Option Value → Heap → Prop) : Prop :=
  MetFree l y (head1 (Cond.code y code ml ret :: ws) rm) (fun a U => a = as' ∧ U = Z) (fun _ _ bl s _ => s.vm.MethodsKnown ∧ s.vm.FramesKnown bl) (fun _ U o U' => ∃ v L, o = .returned v ∧ (Fr n0 L ∧ Old Z n0 U'.heap ∧ U.heap.size ≤ U'.heap.size ∧ Q v U'.heap) ∧ ReturnedEndW U o U' L rm.cells rm.slots)
theorem DoesLK.start {l : Launch} {Z : State} {n0 : Nat} {y : MethodName} {code : ByteArray} {ml : Nat} {ret : Option FieldType} {ws : List Cond} {rm : Room} {as' : Array Value} {Q : Option Value → Heap → Prop} (hn0 : Z.heap.size = n0) (hp : plainFor y = true)
    (body : ∀ p e s m below meth c s₁, Sd Z n0 0 code ml y.cls y.name ret Z.heap p l e rm (s.setVm s.vm) m as' below meth c s₁ [] 0 0 → s.Since s.vm 0 → s = Z → s.vm.MethodsKnown ∧ s.vm.FramesKnown below → Wp p e below (PoW Z n0 s Q rm.cells rm.slots) (s₁.setTop (entryFrame m as' ml))) : DoesLK l Z n0 y code ml ret ws rm as' Q := by
  refine MetFree.of_bodySF hp hisR ?_
  intro p e s m args below meth c s₁ Bd hml0 hP hK
  obtain ⟨rfl, hh⟩ := hP
  subst hh
  exact body p e s m below meth c s₁ ⟨Stand.of_body Bd, ⟨Bd.exec, Bd.bytes, hml0, findClass_of_methodNamed Bd.named, State.Warmed39.refl s, Bd.returns, (name_of_methodNamed Bd.named Bd.method).1, Bd.notSynchronized⟩, by rw [Bd.state]; rfl, Fr.nil n0, hn0 ▸ Old.start s, Nat.zero_le _⟩ ((State.WarmedH.refl s).since 0) rfl hK
theorem own_known {vm vm' : Vm} {fs : List Frame} (h : vm.MethodsKnown ∧ vm.FramesKnown fs) (hal : vm.Alike vm') : vm'.MethodsKnown ∧ vm'.FramesKnown fs := ⟨Vm.MethodsKnown.alikeC hal h.1, Vm.FramesKnown.alikeC hal h.2⟩
section StepsK
variable {Z : State} {n0 kk : Nat} {code : ByteArray} {ml : Nat} {own nm : String} {ret : Option FieldType} {h : Heap} {p : Program} {l : Launch} {e : Env} {R : Room} {s : State} {m : MethodId} {args : Array Value} {below : List Frame} {meth : Method} {c : Code} {T : State} {locs : List Loc} {cells slots : Nat} {P : State → Outcome → Prop} {a0 : Array Value} {u : Vm} {pc pc' : Nat} {L : Array Slot} {S : List Value} {ce sl : Nat}
theorem k_callS (X : Sd Z n0 kk code ml own nm ret h p l e R (s.setVm u) m args below meth c T locs cells slots) (Y : s.Since u kk) {G : Vm → Prop} {y : MethodName} {bytes : ByteArray} {maxL : Nat} {ret' : Option FieldType} {rm : Room} {index : Nat} {Q' : Option Value → Heap → Vm → Prop} {ps : List FieldType} {rr : Option FieldType} {stk : List Value} (hG : ∀ vm', (s.setVm u).WarmedH vm' → G vm') (hTK : u.MethodsKnown ∧ u.FramesKnown below) (hd : Dc code pc (.invokestatic index) 3 pc') (w1 : (Cond.methodLink own index y).before a0 Z = true) (w2 : (Cond.static y).before a0 Z = true) (w3 : (Cond.initialized y.cls).before a0 Z = true) (w4 : (Cond.code y bytes maxL ret').before a0 Z = true) (hy : y.cls ≠ "java/lang/invoke/MethodHandle" ∧ y.cls ≠ "java/lang/invoke/VarHandle") {argsL : List Value} (D : DoesK l Z n0 G y bytes maxL ret' rm argsL.toArray h Q') (hpd : parseMethodDescriptor y.desc = some ⟨ps, rr⟩) (hlen : argsL.length = ps.length) (hst : stk = argsL.reverse ++ S) (hsz : L.size = ml) (hf : rm.frames + 1 ≤ R.frames) (hl : (S.map fun v => v.category).sum + (maxL + 11) + rm.locals ≤ R.locals) (hc : cells + rm.cells ≤ R.cells) (hs : slots + rm.slots ≤ R.slots) (K : ∀ T' h' v L' u' kk', Sd Z n0 kk' code ml own nm ret h' p l e R (s.setVm u') m args below meth c T' (locs ++ L') (cells + rm.cells) (slots + rm.slots) → s.Since u' kk' → Q' v h' u' → Wp p e below P (T'.setTop (mkF m pc' L (v.toList ++ S)))) : Wp p e below P (T.setTop (mkF m pc L stk)) := by
  obtain ⟨hd, rfl⟩ := hd
  obtain ⟨v, vm1, ⟨T', L1, k1, n1⟩, -, X', hS', hgr, ⟨Lc, hQ, l1, y1, z1⟩, st⟩ := callSS X.st X.hx X.hown (mvT X.hZ w1) (mvT X.hZ w2) (mvT X.hZ w3) (mvT X.hZ w4) hy (own_backK (Q := fun v h' vm' L => Fr n0 L ∧ Old Z n0 h' ∧ h.size ≤ h'.size ∧ Q' v h' vm') (W := (S.map fun v => v.category).sum) (D X.old) hG hTK X.hZ w4 w3 hf hl) (g := mkF m pc L stk) rfl (by rw [X.hml]; exact hsz) (argsL := argsL) (rest := S) (lenOf hpd hlen) hst (by show 2 * 0 + _ ≤ _; omega) (X.hb hd) (fun _ _ => ⟨rfl, X.eh, hc, hs⟩)
  dsimp only [Pt.U, Pt.locs, Pt.cells, Pt.slots] at X' hS' hgr l1 y1 z1 st hQ
  subst l1 y1 z1
  exact Wp.tr st (K T' _ v Lc T'.vm T'.heap.size ⟨X', ⟨X.hx, X.2.1.2.1, X.hml, (hS'.1.alike.findClass _ _).trans X.hown, State.Warmed39.trans X.hZ hS'.1, X.hret, X.hnm, X.hlk⟩, rfl, X.fr.app hQ.1, hQ.2.1, Nat.le_refl _⟩ (Y.trans hS' (Nat.le_trans X.hkk (X.eh ▸ hgr))) hQ.2.2.2)
theorem w_newU (X : Sd Z n0 kk code ml own nm ret h p l e R (s.setVm u) m args below meth c T locs cells slots) {C : String} {index n : Nat} (hd : Dc code pc (.new index) 3 pc') (w1 : (Cond.classLink own index C).before a0 Z = true) (wi : (Cond.instantiable C n).before a0 Z = true) (wz : (Cond.initialized C).before a0 Z = true) (hc : cells + 1 ≤ R.cells) (hl : slots + n ≤ R.slots) (K : ∀ T' h' b, b = h.size → n0 ≤ b → Sd Z n0 kk code ml own nm ret h' p l e R (s.setVm u) m args below meth c T' locs (cells + 1) (slots + n) → Ext h h' → Exa Z h' b C → (∀ {O nm' d : String} {ty : FieldType}, Laid Z a0 C O nm' d → parseFieldDescriptor d = some ty → Fld Z h' b O nm' d (defaultValue ty)) → Unt h' b → Wp p e below P (T'.setTop (mkF m pc' L (.ref b :: S)))) : Wp p e below P (T.setTop (mkF m pc L S)) := by
  obtain ⟨hd, rfl⟩ := hd
  obtain ⟨T', h', X', e', E, A, D, U, st⟩ := newO X.st X.hx X.hZ X.hown w1 wi wz X.eh (g := mkF m pc L S) rfl (X.hb hd) hc hl
  exact Wp.of st (K T' h' _ rfl (X.old.1 ▸ X.old.2.1) (X.mk' X' e' X.fr (X.old.ext E) E.1) E A D U)
end StepsK
section StepsM
variable {Z : State} {n0 kk : Nat} {code : ByteArray} {ml : Nat} {own nm : String} {ret : Option FieldType} {h : Heap} {p : Program} {l : Launch} {e : Env} {R : Room} {s : State} {m : MethodId} {args : Array Value} {below : List Frame} {meth : Method} {c : Code} {T : State} {locs : List Loc} {cells slots : Nat} {P : State → Outcome → Prop} {a0 : Array Value} {pc pc' : Nat} {L : Array Slot} {S : List Value}
theorem w_cpM (X : Sd Z n0 kk code ml own nm ret h p l e R s m args below meth c T locs cells slots) {index : Nat} (hd : Dc code pc (.invokestatic index) 3 pc') (w1 : (Cond.methodLink own index Jvm.Stand.acN).before a0 Z = true) (w2 : (Cond.native Jvm.Stand.acN).before a0 Z = true) (w3 : (Cond.static Jvm.Stand.acN).before a0 Z = true) (w4 : (Cond.initialized "java/lang/System").before a0 Z = true) {a b : Addr} {ty : FieldType} (hty : refKind ty = false) {xs zs : List Value} {dp n : Int32} (A : Ary Z h a ty xs) (B : Ary Z h b ty zs) (gb : n0 ≤ b) (h1 : ¬ dp < 0) (hn : xs.length.toInt32 = n) (h3 : dp.toNatClampNeg + xs.length ≤ zs.length) (hsz : L.size = ml) (hf : 1 ≤ R.frames) (hl : (S.map fun v => v.category).sum + (nativeFrameWords "java/lang/System" "arraycopy" 5 + 11) ≤ R.locals) (K : ∀ T' h' L', Sd Z n0 kk code ml own nm ret h' p l e R s m args below meth c T' (locs ++ L') cells slots → Keep h h' [b] → Ary Z h' b ty (own_spl zs dp.toNatClampNeg xs) → Wp p e below P (T'.setTop (mkF m pc' L S))) : Wp p e below P (T.setTop (mkF m pc L (.int n :: .int dp :: .ref b :: .int (0 : Int32) :: .ref a :: S))) := by
  obtain ⟨hd, rfl⟩ := hd
  obtain ⟨ca, A, ea, la, fa⟩ := A
  obtain ⟨cb, B, eb, lb, fb⟩ := B
  obtain ⟨os, ks, hks, sc, hsk⟩ := State.isArrayOf_alike X.hZ.alike A.2.1
  obtain ⟨od, kd, hkd, dc, hdk⟩ := State.isArrayOf_alike X.hZ.alike B.2.1
  have e1 : dp.toInt = dp.toNatClampNeg := by rw [Int32.lt_iff_toInt_lt, show (0 : Int32).toInt = 0 from rfl] at h1; simp only [Int32.toNatClampNeg]; omega
  have e2 : n.toInt = xs.length := by rw [← hn]; exact len_toInt la
  have e3 : n.toNatClampNeg = xs.length := by simp only [Int32.toNatClampNeg, e2]; rfl
  have h2 : ¬ n < 0 := by rw [Int32.lt_iff_toInt_lt, show (0 : Int32).toInt = 0 from rfl, e2]; omega
  have fx : ∀ i, i < n.toNatClampNeg → fits ty (xs.getD ((0 : Int32).toNatClampNeg + i) .null) = true := fun i hi => by
    have q : (0 : Int32).toNatClampNeg + i < xs.length := by rw [show (0 : Int32).toNatClampNeg = 0 from rfl]; omega
    rw [List.getD_eq_getElem?_getD, List.getElem?_eq_getElem q]
    exact fa _ (List.getElem_mem q)
  obtain ⟨vm1, hW, X', st⟩ := X.st.arraycopyK X.hx X.hown (mvT X.hZ w1) (mvT X.hZ w2) (mvT X.hZ w3) (mvT X.hZ w4) (src := a) (dst := b) (srcPos := 0) (destPos := dp) (n := n) (by rw [X.eh]; exact A.1) (by rw [X.eh]; exact B.1) os od A.2.2 B.2.2 hks hkd hsk hdk (by simp) (by decide) h1 h2 (by rw [e2, Ary.size ea, show (0 : Int32).toInt = 0 from rfl]; omega) (by rw [e1, e2, Ary.size eb]; omega)
    (fun _ _ i hi => by rw [own_getD ea]; exact ⟨fx i hi, State.takes_of_prim _ _ hty (fx i hi)⟩) (g := mkF m pc L (.int n :: .int dp :: .ref b :: .int (0 : Int32) :: .ref a :: S)) rfl (by rw [X.hml]; exact hsz) rfl (X.hb hd) hf (by show 2 * 0 + _ + _ ≤ _; omega)
  obtain ⟨f1, f2, f3, -⟩ := Cell.storeRun_facts cb dp.toNatClampNeg (ca.stretch (0 : Int32).toNatClampNeg n.toNatClampNeg)
  have Kp : Keep h (h.setIfInBounds b (copied ca cb 0 dp n)) [b] := own_setKeep B.1 f1 f2 f3
  have hb := (Array.getElem?_eq_some_iff.mp B.1).1
  have eh' : ((T.setVm vm1).setCell b (copied ca cb 0 dp n)).heap = h.setIfInBounds b (copied ca cb 0 dp n) := by
    show T.heap.setIfInBounds b _ = _
    rw [X.eh]
  refine Wp.of st (K _ _ _ (X.mk' X' eh' (X.fr.app fun y hy => by obtain ⟨i, -, rfl⟩ := List.mem_map.mp hy; exact gb) (X.old.keep Kp fun x hx => by cases List.mem_singleton.mp hx; exact gb) Kp.1) Kp ⟨copied ca cb 0 dp n, ⟨by rw [Array.getElem?_setIfInBounds, if_pos rfl]; simp [hb], ⟨by rw [f2]; exact B.2.1.1, by rw [f1]; exact B.2.1.2⟩, by rw [f2]; exact B.2.2⟩, own_copiedM ea eb e3 h3, by rw [own_splLen h3]; exact lb, fun v hv => (own_splMem hv).elim (fb v) (fa v)⟩)
end StepsM
end Jvm.RoadKit
namespace Jvm.RoadKit
open Sem ClassFile Op Lib Jvm.Stand Jvm.Free Jvm.LawKit Bundle Jvm.Free.Exc Jvm.Lib.Cold LibCode.Throwable
/-- what the library asks of Throwable, but for one word: Throwable's own layout of its list -/
def own_thr (rc : String) : List Cond := (excAtoms rc).eraseIdx 18
theorem own_tc {args : Array Value} {s : State} {pl : Platform} {rc : String} (f1 : pl.frameOwnsMonitors = true) (f2 : pl.finalization = false) (f3 : pl.magicAccessors = ({} : Platform).magicAccessors) (h : ∀ d ∈ own_thr rc, d.before args s = true) :
    ∃ T : ThrowableC, T.Links pl s ∧ s.vm.findClass tN = some T.cT ∧ s.methodNamed? tFill = some T.fill ∧ s.methodNamed? tFill0 = some T.fill0 ∧ s.fieldFound? tN "stackTrace" steD = some (T.cT, T.kT, T.i17, T.fStack) ∧ T.fStack.type = .array (.object "java/lang/StackTraceElement") ∧ s.fieldFound? tN "UNASSIGNED_STACK" steD = some (T.cT, T.kT, T.i13, T.fUnassigned) := by
  have g : ∀ (i : Nat) (d : Cond), (own_thr rc)[i]? = some d → d.holds args s none s [] = true := fun i d q => h d (List.mem_of_getElem? q)
  obtain ⟨⟨c, i0⟩, y0, a1, a2, a3, a4, a5, a6⟩ := Cond.native_spec (g 5 (.native tFill0) rfl)
  have hc : s.vm.findClass tN = some c := findClass_of_methodNamed a1
  obtain ⟨k, hk, hnm⟩ := Vm.findClass_spec hc
  obtain ⟨_, k', _, _, b1, _, _, b2, _, b3⟩ := Cond.superclass_spec hc (g 1 (.superclass tN "java/lang/Object") rfl)
  cases hk.symm.trans b1
  obtain ⟨j0, y0', d1, d2, d3, d4, d5, d6, d7⟩ := Cond.ownMethod (x := tFill0) hc hk (g 4 (.instanceMethod tFill0) rfl)
  cases a1.symm.trans d1
  cases a2.symm.trans d2
  obtain ⟨jF, yF, e1, e2, e3, e4, e5, -, -⟩ := Cond.ownMethod (x := tFill) hc hk (g 2 (.instanceMethod tFill) rfl)
  obtain ⟨yF', zF, e6, e7, e8, e9, r1, r2, -, r3⟩ := Cond.codeSync_spec e1 (g 3 (.codeSync tFill Fill.code 1 (some (.object tN))) rfl)
  cases e2.symm.trans e6
  obtain ⟨mO, yO, o1, o2, o3, o4⟩ := Cond.instanceMethod_spec (g 8 (.instanceMethod oInit) rfl)
  obtain ⟨yO', zO, o5, o6, o7, -, -, o8, -, o9⟩ := Cond.code_spec o1 (g 9 (.code oInit ⟨#[0xb1]⟩ 1 none) rfl)
  cases o2.symm.trans o5
  obtain ⟨kO, u1, u2⟩ := Vm.findClass_spec (findClass_of_methodNamed o1)
  obtain ⟨u3, u4⟩ := name_of_methodNamed o1 o2
  obtain ⟨p1, q1, F, l1, l2, l3, l4⟩ := Cond.linkedMethod hc hk o1 (g 10 (.methodLink tN 1 oInit) rfl) pl f3
  obtain ⟨p2, q2, F2, m1, m2, m3, m4⟩ := Cond.linkedMethod hc hk e1 (g 11 (.methodLink tN 27 tFill) rfl) pl f3
  cases l3.symm.trans m3
  obtain ⟨p3, q3, F3, n1, n2, n3, n4⟩ := Cond.linkedMethod hc hk a1 (g 12 (.methodLink tN 202 tFill0) rfl) pl f3
  cases l3.symm.trans n3
  obtain ⟨x1, i1, z1, s1, s2, s3, s4, s5, -⟩ := Cond.ownField (t := .object tN) hc hk (by decide +kernel) (g 13 (.fieldLink tN 7 tN "cause" thD) rfl) (g 26 (.lays rc tN "cause" thD) rfl) pl f3
  obtain ⟨x2, i2, z2, t1, t2, t3, t4, t5, t6, t7, t8⟩ := Cond.ownField (t := .array (.object "java/lang/StackTraceElement")) hc hk (by decide +kernel) (g 15 (.fieldLink tN 17 tN "stackTrace" steD) rfl) (g 27 (.lays rc tN "stackTrace" steD) rfl) pl f3
  obtain ⟨x3, i3, z3, v1, v2, v3, v4, v5, v6, -, v8⟩ := Cond.ownField (t := .object "java/util/List") hc hk (by decide +kernel) (g 17 (.fieldLink tN 24 tN "suppressedExceptions" listD) rfl) (g 28 (.lays rc tN "suppressedExceptions" listD) rfl) pl f3
  obtain ⟨x4, i4, z4, A, cA, w1, w2, w3, w4, -, -, w5, -, -, -, -, w6⟩ := Cond.ownStatic (t := .array (.object "java/lang/StackTraceElement")) hc hk (by decide +kernel) (g 18 (.fieldLink tN 13 tN "UNASSIGNED_STACK" steD) rfl) (g 19 (.laysStatic tN "UNASSIGNED_STACK" steD) rfl) pl f3
  obtain ⟨x5, i5, z5, _, _, y1, y2, y3, y4, -⟩ := Cond.ownStatic (t := .object "java/util/List") hc hk (by decide +kernel) (g 20 (.fieldLink tN 20 tN "SUPPRESSED_SENTINEL" listD) rfl) (g 21 (.laysStatic tN "SUPPRESSED_SENTINEL" listD) rfl) pl f3
  obtain ⟨_, _, _, _, _, zM, _, _, _, k1, k2, -⟩ := Cond.lays_spec (g 22 (.lays tN tN "detailMessage" msgD) rfl)
  have ap : z2.slot ≠ z3.slot := Cond.lays_apart (g 27 (.lays rc tN "stackTrace" steD) rfl) (g 28 (.lays rc tN "suppressedExceptions" listD) rfl) t8 v8 (by rw [t6, v6]; decide)
  have sg : ∀ {x : MethodName} {y : Method} {ps : List FieldType}, parseMethodDescriptor x.desc = some y.sig → (parseMethodDescriptor x.desc).map (·.parameters) = some ps → y.sig.parameters = ps := fun q r => by rw [q] at r; exact Option.some.inj r
  have gF : yF.sig.parameters = [] := sg r3 (by decide +kernel)
  have g0 : y0.sig.parameters = [.int] := sg a6 (by decide +kernel)
  have gO : yO.sig.parameters = [] := sg o9 (by decide +kernel)
  let T : ThrowableC := { cT := c, kT := k, cO := c, aS := A, fillIdx := jF, fill0Idx := i0, initSIdx := jF, obj := mO, kObj := kO, methFill := yF, methFill0 := y0, methInitS := yF, methObj := yO, codeFill := zF, codeInitS := zF, codeObj := zO, fBack := z1, fDepth := z1, fStack := z2, fCause := z1, fSupp := z3, fMsg := zM, fUnassigned := z4, fSentinel := z5, cfT := F, ci1 := p1, n1 := q1, ci27 := p2, n27 := q2, ci202 := p3, n202 := q3, ci7 := x1, i7 := i1, ci13 := x4, i13 := i4, ci17 := x2, i17 := i2, ci20 := x5, i20 := i5, ci24 := x3, i24 := i3 }
  refine ⟨T, ?_, hc, e1, a1, t8, t7, w6⟩
  have hi : k.init = .initialized := Cond.initialized_spec hc hk (g 0 (.initialized tN) rfl)
  have hf : lookupSpecial s.vm mO.cls "<init>" yO.desc = .method mO := by rw [u4]; exact lookupSpecial_of_named o1 o2 o3
  constructor
  all_goals first | assumption | exact Vm.findClass_boot hc hk | (show yO.sig.parameters.length = 0; rw [gO]; rfl)
section StepsF
variable {Z : State} {n0 kk : Nat} {code : ByteArray} {ml : Nat} {own nm : String} {ret : Option FieldType} {h : Heap} {p : Program} {l : Launch} {e : Env} {R : Room} {s : State} {m : MethodId} {args : Array Value} {below : List Frame} {meth : Method} {c : Code} {T : State} {locs : List Loc} {cells slots : Nat} {P : State → Outcome → Prop} {a0 : Array Value} {u : Vm} {pc pc' : Nat} {L : Array Slot} {S : List Value} {ce sl : Nat}
theorem w_fill (X : Sd Z n0 kk code ml tN nm ret h p l e R (s.setVm u) m args below meth c T locs cells slots) (hl : l.stackTraces = true) (hTK : u.MethodsKnown ∧ u.FramesKnown below) (hO : Ext Z.heap s.heap) (hk : kk ≤ s.heap.size) {rc : String} {n : Nat} (wT : ∀ d ∈ own_thr rc, d.before a0 Z = true) (wi : (Cond.instantiable rc n).before a0 Z = true) (hd : Dc code pc (.invokevirtual 27) 3 pc') {a : Addr} {u0 : Value} (hu : u0.isRef = true) (E : Exa Z h a rc) (N : Unt h a) (Fs : Fld Z h a tN "stackTrace" steD u0) (Fb : Fld Z h a tN "backtrace" obD .null) (Su : Sta Z h tN "UNASSIGNED_STACK" steD u0) (ga : n0 ≤ a) (hlc : ∀ x ∈ locs, x.base = a) (hsz : L.size = ml) (hf : 3 ≤ R.frames) (hlo : (S.map fun v => v.category).sum + 42 ≤ R.locals) (hc : cells + 1 ≤ R.cells) (hs : slots + 2752 ≤ R.slots) (K : ∀ T' h' L', Sd Z n0 kk code ml tN nm ret h' p l e R (s.setVm u) m args below meth c T' (locs ++ L') (cells + 1) (slots + 2752) → Keep s.heap h' [a] → Exa Z h' a rc → (∃ v, Fld Z h' a tN "detailMessage" msgD v) → Wp p e below P (T'.setTop (mkF m pc' L (.ref a :: S)))) : Wp p e below P (T.setTop (mkF m pc L (.ref a :: S))) := by
  obtain ⟨hd, rfl⟩ := hd
  have htr : e.platform.stackTraces = true := by rw [X.st.admits.platform]; exact hl
  have howns : e.platform.frameOwnsMonitors = true := by rw [X.st.admits.platform]
  have hfin : e.platform.finalization = false := by rw [X.st.admits.platform]
  have hpl : e.platform.magicAccessors = ({} : Platform).magicAccessors := by rw [X.st.admits.platform]
  have wS : ∀ d ∈ own_thr rc, d.before args (s.setVm u) = true := fun d q => mvX (s := s.setVm u) (ThS.ext hO ThS.start) X.hZ (List.all_eq_true.mp (rfl : (own_thr rc).all xOk = true) d q) (wT d q)
  have g : ∀ (i : Nat) (d : Cond), (own_thr rc)[i]? = some d → d.before args (s.setVm u) = true := fun i d q => wS d (List.mem_of_getElem? q)
  obtain ⟨T0, Lk, fT, nF, nF0, fS, tyS, fU⟩ := own_tc (args := args) howns hfin hpl wS
  obtain ⟨cell, kX, hcell, hcls, hkX, hst, hszk⟩ := E
  obtain ⟨c2, e2, hvm, hmon⟩ := N
  cases hcell.symm.trans e2
  obtain ⟨c3, k3, i1, i2, i3, -⟩ := Cond.instantiable_spec wi
  cases hcls.symm.trans i1
  cases hkX.symm.trans i2
  obtain ⟨c4, cf, kf, i, f, b1, b2, -, -, -, -, b7⟩ := Fs
  cases hcell.symm.trans b1
  obtain ⟨k5, b8, -⟩ := State.fieldFound?_setVm (s := Z) X.hZ.alike b2
  cases (show (s.setVm u).fieldFound? tN "stackTrace" steD = _ from b8).symm.trans fS
  obtain ⟨c6, cb, kb, ib, fB, m1, m2, m3, -, -, -, m7⟩ := Fb
  cases hcell.symm.trans m1
  obtain ⟨cf5, i5, k6, f5, st5, cellS, g1, g2, g3, g4, g5, g6, g7⟩ := Su
  obtain ⟨k7, g8, g9⟩ := State.fieldFound?_setVm (s := Z) X.hZ.alike g1
  cases (show (s.setVm u).fieldFound? tN "UNASSIGNED_STACK" steD = _ from g8).symm.trans fU
  cases (show some st5 = some T0.aS by rw [← Lk.statics, ← g4, g9])
  obtain ⟨kY, q1, q2⟩ := X.hZ.alike.2.2 _ _ hkX
  have hfound : (s.setVm u).vm.findClass rc = some cell.cls := by rw [X.hZ.alike.findClass]; exact hcls
  have hord : kY.kind = .ordinary := by rw [q2]; exact i3
  have hsz' : cell.slots.size = kY.instanceTypes.size := by rw [q2]; exact hszk i3
  have tk : ∀ {f : Field} {v : Value}, kY.instanceTypes[f.slot]? = some f.type → fits f.type v = true → Jvm.Takes (s.setVm u) cell f v := fun {f v} h1 h2 => by
    obtain ⟨r1, r2⟩ := Takes.of_laid (s := s.setVm u) (v := v) q1 hord h1 h2
    exact ⟨by rw [hsz']; simpa using r1, by rw [hvm]; exact r2⟩
  obtain ⟨p1, p2, fBk, v1, v2, v3, v4, -, v5, v6, v7⟩ := Cond.ownField (t := .object "java/lang/Object") fT Lk.cls (by decide +kernel) (g 30 (.fieldLink tN 198 tN "backtrace" obD) rfl) (g 32 (.lays rc tN "backtrace" obD) rfl) e.platform hpl
  obtain ⟨k8, m8, -⟩ := State.fieldFound?_setVm (s := Z) X.hZ.alike m2
  have eB := Option.some.inj ((show (s.setVm u).fieldFound? tN "backtrace" obD = _ from m8).symm.trans v7)
  simp only [Prod.mk.injEq] at eB
  have m7 : cell.slots[fBk.slot]? = some .null := by rw [← eB.2.2.2]; exact m7
  obtain ⟨-, -, cD, kD, iD, fD, -, -, w3, w4, -⟩ := Cond.lays_spec (g 36 (.lays rc tN "depth" "I") rfl)
  cases Option.some.inj ((Cond.lays_declared (g 36 (.lays rc tN "depth" "I") rfl) w3).symm.trans fT)
  obtain ⟨w5, w6⟩ := State.fieldFound?_spec w3
  cases Option.some.inj (w5.symm.trans Lk.cls)
  obtain ⟨w7, w8⟩ := State.fieldFound?_type w3 (t := .int) (by decide +kernel)
  obtain ⟨comp, cO, kO, -, -, x1, x2, x3⟩ := Cond.arrayOver_spec (g 33 (.arrayOver (.object "java/lang/Object")) rfl)
  have tyB := (Cond.laysAt hfound q1 v7 (g 32 (.lays rc tN "backtrace" obD) rfl)).1
  have tyD := (Cond.laysAt hfound q1 w3 (g 36 (.lays rc tN "depth" "I") rfl)).1
  have tyK := (Cond.laysAt hfound q1 fS (g 27 (.lays rc tN "stackTrace" steD) rfl)).1
  have hsel : selectMethod e.platform (s.setVm u).vm cell.cls T0.fill0 = .method T0.fill0 := by
    obtain ⟨y1, y2, y3, z1, z2, z3, z4, -⟩ := Cond.selects_spec (g 24 (.selects rc tFill0 tFill0) rfl)
    cases Option.some.inj (z1.symm.trans hfound)
    cases Option.some.inj (z2.symm.trans (State.methodFound?_of_named nF0 (by decide)))
    cases Option.some.inj (z3.symm.trans nF0)
    rw [Launch.admits_selectMethod X.st.admits]; exact z4
  have hne : T0.aS ≠ a := fun q => by
    rw [q, hcell] at g5
    rw [← Option.some.inj g5, hvm] at g6
    cases g6
  have wF := g 25 (.selects rc tFill tFill) rfl
  obtain ⟨v, vm6, ⟨T6, L6, c6, n6⟩, hW6, X6, ⟨hv6, C6, n', hn', hD6, r1, r2, r3, -, l1, l2, l3⟩, come⟩ := X.st.virtualBack X.hx (own := tN) (C := rc) (index := 27) (y := tFill) (z := tFill) X.hown (g 11 (.methodLink tN 27 tFill) rfl) (g 23 (.declares tFill) rfl) (notFace_of_selects wF) wF (g 2 (.instanceMethod tFill) rfl) (by decide)
    (fillPaysAny (l := l) (W := (S.map fun v => v.category).sum) X.hx htr T0 Lk nF (u0 := ⟨u0, hu⟩) (self := a) (cell := cell) (cellS := cellS) (fun _ => by rw [hvm]; simp) (by rw [hvm]; simp) (by rw [hmon]) (by rw [hmon]) b7 hsel hne (fun q => by rw [q] at g6; cases g6) g7 (tk tyK (by rw [tyS]; exact fits_refV_array _ ⟨u0, hu⟩))
      ⟨{ ci198 := p1, i198 := p2, fBack := fBk }, ⟨v1, v2, v3, v4⟩, m7⟩ hTK.1 hTK.2 fT x3 x1 x2 (Cond.soleField_find fT Lk.cls (g 34 (.soleField tN "backtrace") rfl) v3 v5 v4) (Cond.soleField_find fT Lk.cls (g 35 (.soleField tN "depth") rfl) w6 w7 w4)
      (fun x => tk tyB (by rw [v6]; rfl)) (fun x => tk tyD (by rw [w8]; rfl)) hf hlo)
    (b := a) (cB := cell.cls) hfound ⟨cell, by rw [X.eh]; exact hcell, rfl, by rw [hvm]; rfl⟩ (g := mkF m pc L (.ref a :: S)) rfl (by rw [X.hml]; exact hsz) (Steps.refl _) (argsL := []) (rest := S)
    (fun sig q => by rw [show parseMethodDescriptor tFill.desc = some ⟨[], some (.object tN)⟩ from by decide +kernel] at q; rw [← Option.some.inj q]; rfl) rfl (by show 2 * 0 + _ ≤ _; omega) (X.hb hd)
    (fun vmx hWx => ⟨rfl, hc, hs, by show T.heap[a]? = _; rw [X.eh]; exact hcell, by show T.heap[T0.aS]? = _; rw [X.eh]; exact g5⟩)
  dsimp only [Pt.U, Pt.locs, Pt.cells, Pt.slots] at X6 hD6 l1 l2 l3 come
  subst hv6 l1 l2 l3
  have hb : ∀ x ∈ locs ++ [(⟨a, fBk.slot⟩ : Loc), ⟨a, fD.slot⟩, ⟨a, T0.fStack.slot⟩], x.base = a := fun x q => by
    rcases List.mem_append.mp q with q | q
    · exact hlc x q
    · simp only [List.mem_cons, List.not_mem_nil, or_false] at q
      rcases q with rfl | rfl | rfl <;> rfl
  have Kp : Keep s.heap T6.heap [a] := ⟨X6.same.2.1, fun x cx q r => by
      obtain ⟨c', z1, z2, z3, z4⟩ := X6.same.2.2.2.2.2 x cx q
      have : c'.slots = cx.slots := Array.ext_getElem? fun i => z4 i fun y => r (List.mem_singleton.mpr (hb ⟨x, i⟩ y))
      rw [show T6.heap[x]? = some c' from z1, z2, this], fun x cx q => by
      obtain ⟨c', z1, z2, z3, z4⟩ := X6.same.2.2.2.2.2 x cx q
      exact ⟨c', z1, by rw [z2], by rw [z2], z3⟩⟩
  have hF : Fr n0 (locs ++ [(⟨a, fBk.slot⟩ : Loc), ⟨a, fD.slot⟩, ⟨a, T0.fStack.slot⟩]) := fun x q => (congrArg (n0 ≤ ·) (hb x q)).mpr ga
  have E6 : Exa Z T6.heap a rc := ⟨C6, kX, hD6, by rw [r1]; exact hcls, by rw [r1]; exact hkX, by rw [r2]; exact hst, fun q => by rw [r3]; exact hszk q⟩
  exact Wp.tr come (K T6 T6.heap _ ⟨X6.more (Nat.le_refl _) (Nat.add_le_add_left hn' _), X.2.1, rfl, hF, Old.keep (⟨X.old.1, hO⟩ : Old Z n0 s.heap) Kp (fun x q => (List.mem_singleton.mp q) ▸ ga), Nat.le_trans hk Kp.1⟩ Kp E6
    (fld_laid E6 ⟨C6, hD6, by rw [r2, hvm]; simp⟩ wi (Or.inl (wT (.lays rc tN "detailMessage" msgD) (List.mem_of_getElem? (i := 29) rfl)))))
theorem k_callI (X : Sd Z n0 kk code ml own nm ret h p l e R (s.setVm u) m args below meth c T locs cells slots) (Y : s.Since u kk) {G : Vm → Prop} {y : MethodName} {bytes : ByteArray} {maxL : Nat} {rm : Room} {index : Nat} {Q' : Option Value → Heap → Vm → Prop} {ps : List FieldType} {rr : Option FieldType} {stk : List Value} (hG : ∀ vm', (s.setVm u).WarmedH vm' → G vm') (hTK : u.MethodsKnown ∧ u.FramesKnown below) (hd : Dc code pc (.invokespecial index) 3 pc') (hi : y.name = "<init>") (w1 : (Cond.methodLink own index y).before a0 Z = true) (w2 : (Cond.instanceMethod y).before a0 Z = true) (w3 : (Cond.initialized y.cls).before a0 Z = true) (w4 : (Cond.code y bytes maxL none).before a0 Z = true) (hy : y.cls ≠ "java/lang/invoke/MethodHandle" ∧ y.cls ≠ "java/lang/invoke/VarHandle") {a : Addr} {argsL : List Value} (D : DoesK l Z n0 G y bytes maxL none rm (.ref a :: argsL).toArray h Q') (hpd : parseMethodDescriptor y.desc = some ⟨ps, rr⟩) (hlen : argsL.length = ps.length) (hst : stk = argsL.reverse ++ .ref a :: S) (hsz : L.size = ml) (hf : rm.frames + 1 ≤ R.frames) (hl : (S.map fun v => v.category).sum + (maxL + 11) + rm.locals ≤ R.locals) (hc : cells + rm.cells ≤ R.cells) (hs : slots + rm.slots ≤ R.slots) (K : ∀ T' h' v L' u' kk', Sd Z n0 kk' code ml own nm ret h' p l e R (s.setVm u') m args below meth c T' (locs ++ L') (cells + rm.cells) (slots + rm.slots) → s.Since u' kk' → Q' v h' u' → Wp p e below P (T'.setTop (mkF m pc' L (v.toList ++ S)))) : Wp p e below P (T.setTop (mkF m pc L stk)) := by
  obtain ⟨hd, rfl⟩ := hd
  obtain ⟨v, vm1, ⟨T', L1, k1, n1⟩, -, X', hS', hgr, ⟨Lc, hQ, l1, y1, z1⟩, st⟩ := X.st.specialBackS X.hx hi X.hown (mvT X.hZ w1) (mvT X.hZ w2) (mvT X.hZ w4) hy (own_backK (Q := fun v h' vm' L => Fr n0 L ∧ Old Z n0 h' ∧ h.size ≤ h'.size ∧ Q' v h' vm') (W := (S.map fun v => v.category).sum) (D X.old) hG hTK X.hZ w4 w3 hf hl) (g := mkF m pc L stk) rfl (by rw [X.hml]; exact hsz) (Steps.refl _) (a := a) (argsL := argsL) (rest := S) (lenOf hpd hlen) hst (by show 2 * 0 + _ ≤ _; omega) (X.hb hd) (fun _ _ => ⟨rfl, X.eh, hc, hs⟩)
  dsimp only [Pt.U, Pt.locs, Pt.cells, Pt.slots] at X' hS' hgr l1 y1 z1 st hQ
  subst l1 y1 z1
  exact Wp.tr st (K T' _ v Lc T'.vm T'.heap.size ⟨X', ⟨X.hx, X.2.1.2.1, X.hml, (hS'.1.alike.findClass _ _).trans X.hown, State.Warmed39.trans X.hZ hS'.1, X.hret, X.hnm, X.hlk⟩, rfl, X.fr.app hQ.1, hQ.2.1, Nat.le_refl _⟩ (Y.trans hS' (Nat.le_trans X.hkk (X.eh ▸ hgr))) hQ.2.2.2)
theorem g_ret_boolean {Q : Option Value → Heap → Vm → Prop} (X : Sd Z n0 kk code ml own nm (some .boolean) h p l e R (s.setVm u) m args below meth c T locs cells slots) (Y : s.Since u kk) {z : Int32} (z' : Int32) (hz : nar .boolean z = z') (hd : Dc code pc .ireturn 1 pc') (hq : ∀ vm', (s.setVm u).WarmedH vm' → Q (some (.int z')) h vm') (hc : cells ≤ ce) (hs : slots ≤ sl) : Wp p e below (PoG Z n0 s Q ce sl) (T.setTop (mkF m pc L (.int z :: S))) := by
  subst hz
  exact X.doneG Y nofun hq hc hs fun fs hr => retN X.st X.hx X.hret (by simp) (X.hb hd.1) hr
theorem g_ret_char {Q : Option Value → Heap → Vm → Prop} (X : Sd Z n0 kk code ml own nm (some .char) h p l e R (s.setVm u) m args below meth c T locs cells slots) (Y : s.Since u kk) {z : Int32} (z' : Int32) (hz : nar .char z = z') (hd : Dc code pc .ireturn 1 pc') (hq : ∀ vm', (s.setVm u).WarmedH vm' → Q (some (.int z')) h vm') (hc : cells ≤ ce) (hs : slots ≤ sl) : Wp p e below (PoG Z n0 s Q ce sl) (T.setTop (mkF m pc L (.int z :: S))) := by
  subst hz
  exact X.doneG Y nofun hq hc hs fun fs hr => retN X.st X.hx X.hret (by simp) (X.hb hd.1) hr
end StepsF
/-- a static of Throwable, a reference -/
theorem own_staR {Z : State} {a0 : Array Value} {h : Heap} {F D : String} (hi : (Cond.initialized tN).before a0 Z = true) (hl : (Cond.laysStatic tN F D).before a0 Z = true) (hr : (Cond.isRef (.static tN F D)).before a0 Z = true) (E : Ext Z.heap h) : ∃ v : Value, v.isRef = true ∧ Sta Z h tN F D v := by
  obtain ⟨u, cf, i, k, f, a, cell, h1, h2, h3, h4, h5, h6, h7⟩ := staticIs_of hi hl hr
  obtain ⟨c2, k2, i2, f2, a2, cell2, _, g1, g2, g3, g4, g5, -⟩ := Cond.laysStatic_spec hl
  cases h1.symm.trans g1
  cases h4.symm.trans g3
  cases h5.symm.trans g4
  exact ⟨u.v, u.ok, cf, i, k, f, a, cell, h1, h2, h3, h4, E.2 _ _ h5, g5, h7⟩
end Jvm.RoadKit
namespace Jvm.RoadKit
theorem own_eqI {args : Array Value} {first s : State} {o : Option Outcome} {idx : List Nat} {a b : Term} {x y : Int32} (ha : a.eval args first o idx s = some (.int x)) (hb : b.eval args first o idx s = some (.int y)) : (Cond.eq a b).value args first o s idx = some (decide (x = y)) := by simp [Cond.value, ha, hb]
end Jvm.RoadKit
@@BLOCK:TracedD.lean.txt@@
namespace Jvm.Pilot.@@N@@
open Jvm Jvm.ClassFile Sem Op Lib Jvm.Free Jvm.Stand Jvm.LawKit Jvm.RoadKit Bundle Jvm.Pilot.@@N@@.Jvm.D
def own_hw (a0 : Array Value) (Z : State) : Prop := ∀ d ∈ tables_1, d.before a0 Z = true
def own_at (d : Jvm.Cond) : Prop := ∀ {a0 : Array Value} {Z : State}, own_hw a0 Z → d.before a0 Z = true
theorem own_mk (i : Nat) {d : Jvm.Cond} (h : tables_1[i]? = some d) : own_at d := fun hw => hw _ (List.mem_of_getElem? h)
theorem leR {a b : Nat} (h : Nat.ble a b = true) : a ≤ b := Nat.le_of_ble_eq_true h
def own_S (Z : State) (zc : Int32) (fm : Value) : Prop := Sta Z Z.heap "java/lang/String" "COMPACT_STRINGS" "Z" (.int zc) ∧ (¬ zc = 0) ∧ Sta Z Z.heap "jdk/internal/util/Preconditions" "SIOOBE_FORMATTER" "Ljava/util/function/BiFunction;" fm ∧ fm.isRef = true
theorem own_nar_c (x : Int32) : nar .char (x.toUInt32.toUInt16.toUInt32.toInt32) = x.toUInt32.toUInt16.toUInt32.toInt32 := by
  show ((x.toUInt32.toUInt16.toUInt32.toInt32).toUInt32.toUInt16.toUInt32.toInt32) = _
  simp only [UInt32.toUInt32_toInt32, UInt16.toUInt16_toUInt32]
theorem own_nar_b (x : Int32) : nar .byte (x.toInt8.toInt32) = x.toInt8.toInt32 := by
  show (x.toInt8.toInt32).toInt8.toInt32 = _
  simp
def own_minI (x y : Int32) : Int32 := if y < x then y else x
def own_maxI (x y : Int32) : Int32 := if x < y then y else x
theorem ni1 {x a : Addr} (h : x ≠ a) : x ∉ [a] := fun q => h (List.mem_singleton.mp q)
theorem ni2 {x a b : Addr} (h : x ≠ a ∧ x ≠ b) : x ∉ [a, b] := fun q => by
  simp only [List.mem_cons, List.not_mem_nil, or_false] at q
  exact q.elim h.1 h.2
theorem ltl {a b c : Nat} (h : a < b) (k : b ≤ c) : a < c := Nat.lt_of_lt_of_le h k
theorem nel {a b : Nat} (h : a < b) : a ≠ b := Nat.ne_of_lt h
theorem nfs {s Z : State} {a0 : Array Value} {C : String} {y : MethodName} (hZ : Z.Warmed39 s.vm) (w : (Jvm.Cond.selects C y y).before a0 Z = true) : NotFace s y := notFace_of_selects (args := #[]) (mvT hZ w)
theorem own_shr0 (x : Int32) : x >>> ((0 : Int32) &&& 31) = x := Int32.toInt_inj.mp (by have := c_ishr x 0 0 (by decide); rw [this]; simp)
theorem own_shl0 (x : Int32) : x <<< ((0 : Int32) &&& 31) = x := Int32.toInt_inj.mp (by have := c_ishl x 0 0 (by decide); have q1 := Int32.toInt_lt (x <<< ((0 : Int32) &&& 31)); have q2 := Int32.le_toInt (x <<< ((0 : Int32) &&& 31)); have q3 := Int32.toInt_lt x; have q4 := Int32.le_toInt x; omega)
/-- what is known of the three texts -/
def own_G (Z : State) (h : Heap) (u : Vm) : Prop := Et Z "" h u ∧ Et Z "Cannot deploy " h u ∧ Et Z ": " h u
theorem own_G.warm {Z s : State} {h : Heap} {u vm' : Vm} (M : own_G Z h u) (hW : (s.setVm u).WarmedH vm') : own_G Z h vm' := ⟨M.1.warm hW, M.2.1.warm hW, M.2.2.warm hW⟩
theorem own_G.keep {Z : State} {h h' : Heap} {u : Vm} (M : own_G Z h u) (K : Keep h h' []) : own_G Z h' u := ⟨M.1.keep K, M.2.1.keep K, M.2.2.keep K⟩
theorem own_G.ext {Z : State} {h h' : Heap} {u : Vm} (M : own_G Z h u) (K : Ext h h') : own_G Z h' u := ⟨M.1.ext K, M.2.1.ext K, M.2.2.ext K⟩
theorem own_G.keepA {Z : State} {h h' : Heap} {u : Vm} {a : Addr} {a0 : Array Value} {k : Nat} (M : own_G Z h u) (hal : Z.vm.Alike u) (K : Keep h h' [a]) (E : Exa Z h a "java/lang/String") (F : Fld Z h a "java/lang/String" "value" "[B" .null) (wi : (Cond.instantiable "java/lang/String" k).before a0 Z = true) : own_G Z h' u := ⟨M.1.keepA (by decide) hal K E F wi, M.2.1.keepA (by decide) hal K E F wi, M.2.2.keepA (by decide) hal K E F wi⟩
theorem own_G.ib {Z : State} {h : Heap} {u : Vm} (I : IB Z u []) : own_G Z h u := ⟨Et.ib I (by simp), Et.ib I (by simp), Et.ib I (by simp)⟩
/-- a builder: count k, bytes zs -/
def Bld (Z : State) (h : Heap) (a d : Addr) (k : Int32) (zs : List Value) : Prop := Exa Z h a "java/lang/StringBuilder" ∧ Fld Z h a "java/lang/AbstractStringBuilder" "value" "[B" (.ref d) ∧ Fld Z h a "java/lang/AbstractStringBuilder" "coder" "B" (.int 0) ∧ Fld Z h a "java/lang/AbstractStringBuilder" "count" "I" (.int k) ∧ Ary Z h d .byte zs
def own_z (n : Nat) : List Value := List.replicate n (.int 0)

/-- a String of that coder whose bytes are vs -/
def Lat (Z : State) (h : Heap) (a t : Addr) (k : Int32) (vs : List Value) : Prop := Exa Z h a "java/lang/String" ∧ Fld Z h a "java/lang/String" "coder" "B" (.int k) ∧ Fld Z h a "java/lang/String" "value" "[B" (.ref t) ∧ Ary Z h t .byte vs
theorem Lat.ext {Z : State} {h h' : Heap} {a t : Addr} {k : Int32} {vs : List Value} (M : Lat Z h a t k vs) (E : Ext h h') : Lat Z h' a t k vs := ⟨M.1.ext E, M.2.1.ext E, M.2.2.1.ext E, M.2.2.2.ext E⟩
theorem Lat.keep {Z : State} {h h' : Heap} {a t : Addr} {k : Int32} {vs : List Value} {ws : List Addr} (M : Lat Z h a t k vs) (K : Keep h h' ws) (q1 : a ∉ ws) (q2 : t ∉ ws) : Lat Z h' a t k vs := ⟨M.1.keep K, M.2.1.keep K q1, M.2.2.1.keep K q1, M.2.2.2.keep K q2⟩
theorem own_le255 (x : Int32) : ¬ (255 : Int32) < (x &&& (255 : Int32)).toUInt32.toUInt16.toUInt32.toInt32 := by
  have h := Jvm.Kit.i32_mask x 255 (k := 8) (by decide) (by decide)
  have q := c_i2c (x &&& (255 : Int32))
  rw [Int32.lt_iff_toInt_lt, show (255 : Int32).toInt = 255 from rfl]
  omega
def own_byt (x y : Int32) : Int32 := ((x.toUInt32 >>> (((8 : Int32) * y) &&& 31).toUInt32).toInt32 &&& (255 : Int32)).toUInt32.toUInt16.toUInt32.toInt32
theorem own_bytN (x y : Int32) : nar .char (own_byt x y) = own_byt x y := own_nar_c _
theorem own_bytL (x y : Int32) : ¬ (255 : Int32) < own_byt x y := own_le255 _
theorem own_neC {Z : State} {h : Heap} {a b : Addr} {C D : String} (E : Exa Z h a C) (F : Exa Z h b D) (hn : C ≠ D) : a ≠ b := fun r => by
  subst r
  obtain ⟨c1, k1, h1, h2, -⟩ := E
  obtain ⟨c2, k2, g1, g2, -⟩ := F
  cases h1.symm.trans g1
  obtain ⟨k3, e1, e2⟩ := Vm.findClass_spec h2
  obtain ⟨k4, f1, f2⟩ := Vm.findClass_spec g2
  cases e1.symm.trans f1
  exact hn (e2.symm.trans f2)
theorem own_nf {s : State} {args : Array Value} {C : String} {y y' : MethodName} (ws : (Cond.selects C y' y').before args s = true) (hc : y.cls = y'.cls) : NotFace s y := fun r0 hr => by
  obtain ⟨c2, r2, m2, -, -, q3, -, kP, hkP, hkPi⟩ := Cond.selects_spec ws
  have e : r0.cls = m2.cls := Option.some.inj ((findClass_of_methodNamed hr).symm.trans (hc ▸ findClass_of_methodNamed q3))
  exact ⟨kP, by rw [e]; exact hkP, hkPi⟩
theorem own_takeP {zs : List Value} {n : Nat} (h : n ≤ zs.length) : (List.range n).map (fun i => zs.getD ((0 : Int32).toNatClampNeg + i) .null) = zs.take n := by
  apply List.ext_getElem?
  intro i
  rw [List.getElem?_map, List.getElem?_take]
  by_cases q : i < n
  · rw [List.getElem?_range q, if_pos q, show (0 : Int32).toNatClampNeg = 0 from rfl]
    simp only [Option.map_some, Nat.zero_add]
    rw [List.getD_eq_getElem?_getD, List.getElem?_eq_getElem (show i < zs.length by omega)]; rfl
  · rw [if_neg q, List.getElem?_eq_none (show (List.range n).length ≤ i by rw [List.length_range]; omega)]; rfl
theorem own_aryNe {Z : State} {h : Heap} {a b : Addr} {ty : FieldType} {vs ws : List Value} (A : Ary Z h a ty vs) (B : Ary Z h b ty ws) (hn : vs.length ≠ ws.length) : a ≠ b := fun r => by
  subst r
  obtain ⟨c, A1, A2, -⟩ := A
  obtain ⟨d, B1, B2, -⟩ := B
  cases A1.1.symm.trans B1.1
  exact hn (by rw [← Ary.size A2, Ary.size B2])
theorem own_EtF {Z : State} {h0 hF : Heap} {u0 u1 u2 vm' : Vm} {t : String} {a b : Addr} {a0 : Array Value} {vs : List Value} (M : Et Z t h0 u0) (K : Keep h0 hF []) (h1 : ∀ (us : Array UInt16) (a2 : Addr), utf16ToString? us = some t → u1.interned.find? (fun p => p.1 == us) = some (us, a2) → u0.interned.find? (fun p => p.1 == us) = some (us, a2) ∨ a2 = a)
    (h2 : ∀ (us : Array UInt16), utf16ToString? us = some t → u2.interned.find? (fun p => p.1 == us) = u1.interned.find? (fun p => p.1 == us)) (e : vm'.interned = u2.interned) (hal0 : u0.Alike vm') (halZ : Z.vm.Alike vm') (ht : (∀ c ∈ t.toList, c.toNat < 256) ∧ t.toList.map (fun c => Value.int (Jvm.Lit.byteI c.toNat.toUInt16)) = vs) (wi : (Cond.instantiable "java/lang/String" 4).before a0 Z = true)
    (L : Lat Z hF a b (0 : Int32) vs) (EB : Exa Z hF b "[B") : Et Z t hF vm' := by
  intro us a2 hus hf
  rw [e, h2 us hus] at hf
  rcases h1 us a2 hus hf with q | rfl
  · exact (M us a2 hus q).imp id fun r => r.moved (W := (({ Z with heap := hF } : State).setVm vm')) hal0 (fun b c r => K.2.1 b c r List.not_mem_nil)
  · exact Or.inr (own_slOf (W := (({ Z with heap := hF } : State).setVm vm')) halZ hus ht wi L.1 L.2.1 L.2.2.1 L.2.2.2 EB)
theorem own_EtO {Z : State} {h0 hF : Heap} {u0 u1 : Vm} {t : String} (M : Et Z t h0 u0) (K : Keep h0 hF []) (h2 : ∀ (us : Array UInt16), utf16ToString? us = some t → u1.interned.find? (fun p => p.1 == us) = u0.interned.find? (fun p => p.1 == us)) (hal0 : u0.Alike u1) : Et Z t hF u1 := by
  intro us a2 hus hf
  rw [h2 us hus] at hf
  exact (M us a2 hus hf).imp id fun r => r.moved (W := (({ Z with heap := hF } : State).setVm u1)) hal0 (fun b c r => K.2.1 b c r List.not_mem_nil)
/-- a DeploymentException as it was made -/
def own_New (Z : State) (h : Heap) (a : Addr) : Prop := Exa Z h a "com/example/inflow/inflow/model/DeploymentException" ∧ Unt h a ∧ Fld Z h a "java/lang/Throwable" "cause" "Ljava/lang/Throwable;" .null ∧ Fld Z h a "java/lang/Throwable" "stackTrace" "[Ljava/lang/StackTraceElement;" .null ∧ Fld Z h a "java/lang/Throwable" "suppressedExceptions" "Ljava/util/List;" .null ∧ Fld Z h a "java/lang/Throwable" "backtrace" "Ljava/lang/Object;" .null
/-- Throwable's two statics -/
def own_Two (Z : State) (u0 u1 : Value) : Prop := u0.isRef = true ∧ u1.isRef = true ∧ Sta Z Z.heap "java/lang/Throwable" "UNASSIGNED_STACK" "[Ljava/lang/StackTraceElement;" u0 ∧ Sta Z Z.heap "java/lang/Throwable" "SUPPRESSED_SENTINEL" "Ljava/util/List;" u1
theorem own_fitR {t : FieldType} {v : Value} (h : v.isRef = true) (ht : t.isReference = true) : fits t v = true := by
  rcases ref_cases h with rfl | ⟨x, rfl⟩ <;> cases t <;> first | rfl | cases ht
theorem own_stI {s : State} {args : Array Value} {C n d : String} {o : Int32} (h : (Jvm.Cond.eq (Jvm.Term.static C n d) (Jvm.Term.int o)).value args s none s [] = some true) (hi : (Jvm.Cond.initializedFor C n d).before args s = true ∨ ((Jvm.Cond.initialized C).before args s = true ∧ (Jvm.Cond.laysStatic C n d).before args s = true)) : Sta s s.heap C n d (.int o) := by
  obtain ⟨x, y, h1, h2, k1, k2⟩ := cmp_v (Or.inl h)
  cases h2
  cases x <;> first | (obtain ⟨z, hz⟩ := k2; cases hz; done) | skip
  rename_i z
  have q := gotT (Jvm.RoadKit.own_eqI h1 rfl) h
  subst q
  exact Sta.start h1 hi
theorem wd_0 : own_at (Cond.methodLink "com/example/inflow/inflow/model/DeploymentExceptionForDescriptorPinLaw" 7 ⟨"com/example/inflow/inflow/model/DeploymentExceptionForDescriptorPinLaw", "byteAt", "(II)C"⟩) := own_mk 0 rfl
theorem wd_1 : own_at (Cond.static ⟨"com/example/inflow/inflow/model/DeploymentExceptionForDescriptorPinLaw", "byteAt", "(II)C"⟩) := own_mk 1 rfl
theorem wd_2 : own_at (Cond.initialized "com/example/inflow/inflow/model/DeploymentExceptionForDescriptorPinLaw") := own_mk 2 rfl
theorem wd_3 : own_at (Cond.code ⟨"com/example/inflow/inflow/model/DeploymentExceptionForDescriptorPinLaw", "byteAt", "(II)C"⟩ method_3_code 2 (some .char)) := own_mk 3 rfl
theorem wd_4 : own_at (Cond.methodLink "com/example/inflow/inflow/model/DeploymentExceptionForDescriptorPinLaw" 13 ⟨"com/example/inflow/inflow/model/DeploymentExceptionForDescriptorPinLaw", "pick", "(CCCI)Ljava/lang/String;"⟩) := own_mk 4 rfl
theorem wd_5 : own_at (Cond.static ⟨"com/example/inflow/inflow/model/DeploymentExceptionForDescriptorPinLaw", "pick", "(CCCI)Ljava/lang/String;"⟩) := own_mk 5 rfl
theorem wd_6 : own_at (Cond.code ⟨"com/example/inflow/inflow/model/DeploymentExceptionForDescriptorPinLaw", "pick", "(CCCI)Ljava/lang/String;"⟩ method_4_code 4 (Option.some (FieldType.object "java/lang/String"))) := own_mk 6 rfl
theorem wd_7 : own_at (Cond.classLink "com/example/inflow/inflow/model/DeploymentExceptionForDescriptorPinLaw" 28 "java/lang/String") := own_mk 7 rfl
theorem wd_8 : own_at (Cond.instantiable "java/lang/String" 4) := own_mk 8 rfl
theorem wd_9 : own_at (Cond.initialized "java/lang/String") := own_mk 9 rfl
theorem wd_10 : own_at (Cond.arrayClass FieldType.char) := own_mk 10 rfl
theorem wd_11 : own_at (Cond.methodLink "com/example/inflow/inflow/model/DeploymentExceptionForDescriptorPinLaw" 37 ⟨"java/lang/String", "<init>", "([C)V"⟩) := own_mk 11 rfl
theorem wd_12 : own_at (Cond.instanceMethod ⟨"java/lang/String", "<init>", "([C)V"⟩) := own_mk 12 rfl
theorem wd_13 : own_at (Cond.code ⟨"java/lang/String", "<init>", "([C)V"⟩ jdk_42_method_3_code 2 none) := own_mk 13 rfl
theorem wd_14 : own_at (Cond.methodLink "java/lang/String" 27 ⟨"java/lang/String", "<init>", "([CIILjava/lang/Void;)V"⟩) := own_mk 14 rfl
theorem wd_15 : own_at (Cond.instanceMethod ⟨"java/lang/String", "<init>", "([CIILjava/lang/Void;)V"⟩) := own_mk 15 rfl
theorem wd_17 : own_at (Cond.code ⟨"java/lang/String", "<init>", "([CIILjava/lang/Void;)V"⟩ jdk_42_method_149_code 6 none) := own_mk 17 rfl
theorem wd_18 : own_at (Cond.methodLink "java/lang/String" 1 ⟨"java/lang/Object", "<init>", "()V"⟩) := own_mk 18 rfl
theorem wd_19 : own_at (Cond.instanceMethod ⟨"java/lang/Object", "<init>", "()V"⟩) := own_mk 19 rfl
theorem wd_20 : own_at (Cond.code ⟨"java/lang/Object", "<init>", "()V"⟩ object_method_1_code 1 none) := own_mk 20 rfl
theorem wd_21 : own_at (Cond.stringLink "java/lang/String" 7 "") := own_mk 21 rfl
theorem wd_22 : own_at (Cond.arrayClass FieldType.byte) := own_mk 22 rfl
theorem wd_23 : own_at (Cond.laysFinal "java/lang/String" "java/lang/String" "value" "[B") := own_mk 23 rfl
theorem wd_24 : own_at (Cond.laysFinal "java/lang/String" "java/lang/String" "coder" "B") := own_mk 24 rfl
theorem wd_25 : own_at (Cond.soleField "java/lang/String" "value") := own_mk 25 rfl
theorem wd_26 : own_at (Cond.soleField "java/lang/String" "coder") := own_mk 26 rfl
theorem wd_27 : own_at (Cond.fieldLink "java/lang/String" 9 "java/lang/String" "value" "[B") := own_mk 27 rfl
theorem wd_28 : own_at (Cond.fieldLink "java/lang/String" 15 "java/lang/String" "coder" "B") := own_mk 28 rfl
theorem wd_29 : own_at (Cond.methodLink "com/example/inflow/inflow/model/DeploymentExceptionForDescriptorPinLaw" 17 ⟨"com/example/inflow/inflow/model/DeploymentException", "forDescriptor", "(Ljava/lang/String;Ljava/lang/String;)Lcom/example/inflow/inflow/model/DeploymentException;"⟩) := own_mk 29 rfl
theorem wd_30 : own_at (Cond.static ⟨"com/example/inflow/inflow/model/DeploymentException", "forDescriptor", "(Ljava/lang/String;Ljava/lang/String;)Lcom/example/inflow/inflow/model/DeploymentException;"⟩) := own_mk 30 rfl
theorem wd_31 : own_at (Cond.initialized "com/example/inflow/inflow/model/DeploymentException") := own_mk 31 rfl
theorem wd_32 : own_at (Cond.code ⟨"com/example/inflow/inflow/model/DeploymentException", "forDescriptor", "(Ljava/lang/String;Ljava/lang/String;)Lcom/example/inflow/inflow/model/DeploymentException;"⟩ prog_8_method_4_code 2 (Option.some (FieldType.object "com/example/inflow/inflow/model/DeploymentException"))) := own_mk 32 rfl
theorem wd_33 : own_at (Cond.classLink "com/example/inflow/inflow/model/DeploymentException" 8 "com/example/inflow/inflow/model/DeploymentException") := own_mk 33 rfl
theorem wd_34 : own_at (Cond.instantiable "com/example/inflow/inflow/model/DeploymentException" 6) := own_mk 34 rfl
theorem wd_35 : own_at (Cond.methodLink "com/example/inflow/inflow/model/DeploymentException" 7 ⟨"com/example/inflow/inflow/model/DeploymentException", "message", "(Ljava/lang/String;Ljava/lang/String;)Ljava/lang/String;"⟩) := own_mk 35 rfl
theorem wd_36 : own_at (Cond.static ⟨"com/example/inflow/inflow/model/DeploymentException", "message", "(Ljava/lang/String;Ljava/lang/String;)Ljava/lang/String;"⟩) := own_mk 36 rfl
theorem wd_37 : own_at (Cond.code ⟨"com/example/inflow/inflow/model/DeploymentException", "message", "(Ljava/lang/String;Ljava/lang/String;)Ljava/lang/String;"⟩ prog_8_method_11_code 2 (Option.some (FieldType.object "java/lang/String"))) := own_mk 37 rfl
theorem wd_38 : own_at (Cond.classLink "com/example/inflow/inflow/model/DeploymentException" 25 "java/lang/StringBuilder") := own_mk 38 rfl
theorem wd_39 : own_at (Cond.instantiable "java/lang/StringBuilder" 4) := own_mk 39 rfl
theorem wd_40 : own_at (Cond.initialized "java/lang/StringBuilder") := own_mk 40 rfl
theorem wd_41 : own_at (Cond.methodLink "com/example/inflow/inflow/model/DeploymentException" 27 ⟨"java/lang/StringBuilder", "<init>", "()V"⟩) := own_mk 41 rfl
theorem wd_42 : own_at (Cond.instanceMethod ⟨"java/lang/StringBuilder", "<init>", "()V"⟩) := own_mk 42 rfl
theorem wd_43 : own_at (Cond.code ⟨"java/lang/StringBuilder", "<init>", "()V"⟩ jdk_67_method_1_code 1 none) := own_mk 43 rfl
theorem wd_44 : own_at (Cond.methodLink "java/lang/StringBuilder" 1 ⟨"java/lang/AbstractStringBuilder", "<init>", "(I)V"⟩) := own_mk 44 rfl
theorem wd_45 : own_at (Cond.instanceMethod ⟨"java/lang/AbstractStringBuilder", "<init>", "(I)V"⟩) := own_mk 45 rfl
theorem wd_48 : own_at (Cond.initialized "java/lang/AbstractStringBuilder") := own_mk 48 rfl
theorem wd_49 : own_at (Cond.code ⟨"java/lang/AbstractStringBuilder", "<init>", "(I)V"⟩ jdk_68_method_2_code 2 none) := own_mk 49 rfl
theorem wd_50 : own_at (Cond.methodLink "java/lang/AbstractStringBuilder" 3 ⟨"java/lang/Object", "<init>", "()V"⟩) := own_mk 50 rfl
theorem wd_51 : own_at (Cond.fieldLink "java/lang/AbstractStringBuilder" 18 "java/lang/String" "COMPACT_STRINGS" "Z") := own_mk 51 rfl
theorem wd_52 : own_at (Cond.fieldLink "java/lang/AbstractStringBuilder" 15 "java/lang/AbstractStringBuilder" "value" "[B") := own_mk 52 rfl
theorem wd_53 : own_at (Cond.lays "java/lang/StringBuilder" "java/lang/AbstractStringBuilder" "value" "[B") := own_mk 53 rfl
theorem wd_54 : own_at (Cond.fieldLink "java/lang/AbstractStringBuilder" 22 "java/lang/AbstractStringBuilder" "coder" "B") := own_mk 54 rfl
theorem wd_55 : own_at (Cond.lays "java/lang/StringBuilder" "java/lang/AbstractStringBuilder" "coder" "B") := own_mk 55 rfl
theorem wd_56 : own_at (Cond.stringLink "com/example/inflow/inflow/model/DeploymentException" 70 "Cannot deploy ") := own_mk 56 rfl
theorem wd_57 : own_at (Cond.methodLink "com/example/inflow/inflow/model/DeploymentException" 34 ⟨"java/lang/StringBuilder", "append", "(Ljava/lang/String;)Ljava/lang/StringBuilder;"⟩) := own_mk 57 rfl
theorem wd_58 : own_at (Cond.declares ⟨"java/lang/StringBuilder", "append", "(Ljava/lang/String;)Ljava/lang/StringBuilder;"⟩) := own_mk 58 rfl
theorem wd_59 : own_at (Cond.instanceMethod ⟨"java/lang/StringBuilder", "append", "(Ljava/lang/String;)Ljava/lang/StringBuilder;"⟩) := own_mk 59 rfl
theorem wd_60 : own_at (Cond.selects "java/lang/StringBuilder" ⟨"java/lang/StringBuilder", "append", "(Ljava/lang/String;)Ljava/lang/StringBuilder;"⟩ ⟨"java/lang/StringBuilder", "append", "(Ljava/lang/String;)Ljava/lang/StringBuilder;"⟩) := own_mk 60 rfl
theorem wd_61 : own_at (Cond.code ⟨"java/lang/StringBuilder", "append", "(Ljava/lang/String;)Ljava/lang/StringBuilder;"⟩ jdk_67_method_7_code 2 (Option.some (FieldType.object "java/lang/StringBuilder"))) := own_mk 61 rfl
theorem wd_62 : own_at (Cond.methodLink "java/lang/StringBuilder" 29 ⟨"java/lang/AbstractStringBuilder", "append", "(Ljava/lang/String;)Ljava/lang/AbstractStringBuilder;"⟩) := own_mk 62 rfl
theorem wd_63 : own_at (Cond.instanceMethod ⟨"java/lang/AbstractStringBuilder", "append", "(Ljava/lang/String;)Ljava/lang/AbstractStringBuilder;"⟩) := own_mk 63 rfl
theorem wd_64 : own_at (Cond.superclass "java/lang/StringBuilder" "java/lang/AbstractStringBuilder") := own_mk 64 rfl
theorem wd_66 : own_at (Cond.code ⟨"java/lang/AbstractStringBuilder", "append", "(Ljava/lang/String;)Ljava/lang/AbstractStringBuilder;"⟩ jdk_68_method_22_code 3 (Option.some (FieldType.object "java/lang/AbstractStringBuilder"))) := own_mk 66 rfl
theorem wd_67 : own_at (Cond.methodLink "java/lang/AbstractStringBuilder" 32 ⟨"java/lang/String", "length", "()I"⟩) := own_mk 67 rfl
theorem wd_68 : own_at (Cond.declares ⟨"java/lang/String", "length", "()I"⟩) := own_mk 68 rfl
theorem wd_69 : own_at (Cond.instanceMethod ⟨"java/lang/String", "length", "()I"⟩) := own_mk 69 rfl
theorem wd_70 : own_at (Cond.selects "java/lang/String" ⟨"java/lang/String", "length", "()I"⟩ ⟨"java/lang/String", "length", "()I"⟩) := own_mk 70 rfl
theorem wd_71 : own_at (Cond.code ⟨"java/lang/String", "length", "()I"⟩ jdk_42_method_54_code 1 (some .int)) := own_mk 71 rfl
theorem wd_72 : own_at (Cond.methodLink "java/lang/String" 335 ⟨"java/lang/String", "coder", "()B"⟩) := own_mk 72 rfl
theorem wd_73 : own_at (Cond.declares ⟨"java/lang/String", "coder", "()B"⟩) := own_mk 73 rfl
theorem wd_74 : own_at (Cond.instanceMethod ⟨"java/lang/String", "coder", "()B"⟩) := own_mk 74 rfl
theorem wd_75 : own_at (Cond.selects "java/lang/String" ⟨"java/lang/String", "coder", "()B"⟩ ⟨"java/lang/String", "coder", "()B"⟩) := own_mk 75 rfl
theorem wd_76 : own_at (Cond.code ⟨"java/lang/String", "coder", "()B"⟩ jdk_42_method_152_code 1 (some .byte)) := own_mk 76 rfl
theorem wd_77 : own_at (Cond.fieldLink "java/lang/String" 38 "java/lang/String" "COMPACT_STRINGS" "Z") := own_mk 77 rfl
theorem wd_78 : own_at (Cond.fieldLink "java/lang/AbstractStringBuilder" 79 "java/lang/AbstractStringBuilder" "count" "I") := own_mk 78 rfl
theorem wd_79 : own_at (Cond.lays "java/lang/StringBuilder" "java/lang/AbstractStringBuilder" "count" "I") := own_mk 79 rfl
theorem wd_80 : own_at (Cond.methodLink "java/lang/AbstractStringBuilder" 100 ⟨"java/lang/AbstractStringBuilder", "ensureCapacityInternal", "(I)V"⟩) := own_mk 80 rfl
theorem wd_81 : own_at (Cond.instanceMethod ⟨"java/lang/AbstractStringBuilder", "ensureCapacityInternal", "(I)V"⟩) := own_mk 81 rfl
theorem wd_82 : own_at (Cond.privateMethod ⟨"java/lang/AbstractStringBuilder", "ensureCapacityInternal", "(I)V"⟩) := own_mk 82 rfl
theorem wd_83 : own_at (Cond.selects "java/lang/StringBuilder" ⟨"java/lang/AbstractStringBuilder", "ensureCapacityInternal", "(I)V"⟩ ⟨"java/lang/AbstractStringBuilder", "ensureCapacityInternal", "(I)V"⟩) := own_mk 83 rfl
theorem wd_84 : own_at (Cond.code ⟨"java/lang/AbstractStringBuilder", "ensureCapacityInternal", "(I)V"⟩ jdk_68_method_9_code 3 none) := own_mk 84 rfl
theorem wd_85 : own_at (Cond.methodLink "java/lang/AbstractStringBuilder" 208 ⟨"java/lang/AbstractStringBuilder", "putStringAt", "(ILjava/lang/String;)V"⟩) := own_mk 85 rfl
theorem wd_86 : own_at (Cond.instanceMethod ⟨"java/lang/AbstractStringBuilder", "putStringAt", "(ILjava/lang/String;)V"⟩) := own_mk 86 rfl
theorem wd_87 : own_at (Cond.privateMethod ⟨"java/lang/AbstractStringBuilder", "putStringAt", "(ILjava/lang/String;)V"⟩) := own_mk 87 rfl
theorem wd_88 : own_at (Cond.selects "java/lang/StringBuilder" ⟨"java/lang/AbstractStringBuilder", "putStringAt", "(ILjava/lang/String;)V"⟩ ⟨"java/lang/AbstractStringBuilder", "putStringAt", "(ILjava/lang/String;)V"⟩) := own_mk 88 rfl
theorem wd_89 : own_at (Cond.code ⟨"java/lang/AbstractStringBuilder", "putStringAt", "(ILjava/lang/String;)V"⟩ jdk_68_method_73_code 3 none) := own_mk 89 rfl
theorem wd_90 : own_at (Cond.methodLink "java/lang/AbstractStringBuilder" 397 ⟨"java/lang/AbstractStringBuilder", "inflateIfNeededFor", "(Ljava/lang/String;)V"⟩) := own_mk 90 rfl
theorem wd_91 : own_at (Cond.instanceMethod ⟨"java/lang/AbstractStringBuilder", "inflateIfNeededFor", "(Ljava/lang/String;)V"⟩) := own_mk 91 rfl
theorem wd_92 : own_at (Cond.privateMethod ⟨"java/lang/AbstractStringBuilder", "inflateIfNeededFor", "(Ljava/lang/String;)V"⟩) := own_mk 92 rfl
theorem wd_93 : own_at (Cond.selects "java/lang/StringBuilder" ⟨"java/lang/AbstractStringBuilder", "inflateIfNeededFor", "(Ljava/lang/String;)V"⟩ ⟨"java/lang/AbstractStringBuilder", "inflateIfNeededFor", "(Ljava/lang/String;)V"⟩) := own_mk 93 rfl
theorem wd_94 : own_at (Cond.code ⟨"java/lang/AbstractStringBuilder", "inflateIfNeededFor", "(Ljava/lang/String;)V"⟩ jdk_68_method_71_code 2 none) := own_mk 94 rfl
theorem wd_95 : own_at (Cond.methodLink "java/lang/AbstractStringBuilder" 40 ⟨"java/lang/String", "coder", "()B"⟩) := own_mk 95 rfl
theorem wd_96 : own_at (Cond.methodLink "java/lang/AbstractStringBuilder" 399 ⟨"java/lang/String", "getBytes", "([BIB)V"⟩) := own_mk 96 rfl
theorem wd_97 : own_at (Cond.declares ⟨"java/lang/String", "getBytes", "([BIB)V"⟩) := own_mk 97 rfl
theorem wd_98 : own_at (Cond.instanceMethod ⟨"java/lang/String", "getBytes", "([BIB)V"⟩) := own_mk 98 rfl
theorem wd_99 : own_at (Cond.selects "java/lang/String" ⟨"java/lang/String", "getBytes", "([BIB)V"⟩ ⟨"java/lang/String", "getBytes", "([BIB)V"⟩) := own_mk 99 rfl
theorem wd_100 : own_at (Cond.code ⟨"java/lang/String", "getBytes", "([BIB)V"⟩ jdk_42_method_147_code 4 none) := own_mk 100 rfl
theorem wd_101 : own_at (Cond.methodLink "java/lang/String" 212 ⟨"java/lang/System", "arraycopy", "(Ljava/lang/Object;ILjava/lang/Object;II)V"⟩) := own_mk 101 rfl
theorem wd_102 : own_at (Cond.static ⟨"java/lang/System", "arraycopy", "(Ljava/lang/Object;ILjava/lang/Object;II)V"⟩) := own_mk 102 rfl
theorem wd_103 : own_at (Cond.initialized "java/lang/System") := own_mk 103 rfl
theorem wd_104 : own_at (Cond.native ⟨"java/lang/System", "arraycopy", "(Ljava/lang/Object;ILjava/lang/Object;II)V"⟩) := own_mk 104 rfl
theorem wd_105 : own_at (Cond.stringLink "com/example/inflow/inflow/model/DeploymentException" 72 ": ") := own_mk 105 rfl
theorem wd_106 : own_at (Cond.methodLink "com/example/inflow/inflow/model/DeploymentException" 40 ⟨"java/lang/StringBuilder", "toString", "()Ljava/lang/String;"⟩) := own_mk 106 rfl
theorem wd_107 : own_at (Cond.declares ⟨"java/lang/StringBuilder", "toString", "()Ljava/lang/String;"⟩) := own_mk 107 rfl
theorem wd_108 : own_at (Cond.instanceMethod ⟨"java/lang/StringBuilder", "toString", "()Ljava/lang/String;"⟩) := own_mk 108 rfl
theorem wd_109 : own_at (Cond.selects "java/lang/StringBuilder" ⟨"java/lang/StringBuilder", "toString", "()Ljava/lang/String;"⟩ ⟨"java/lang/StringBuilder", "toString", "()Ljava/lang/String;"⟩) := own_mk 109 rfl
theorem wd_110 : own_at (Cond.code ⟨"java/lang/StringBuilder", "toString", "()Ljava/lang/String;"⟩ jdk_67_method_42_code 1 (Option.some (FieldType.object "java/lang/String"))) := own_mk 110 rfl
theorem wd_111 : own_at (Cond.classLink "java/lang/StringBuilder" 18 "java/lang/String") := own_mk 111 rfl
theorem wd_112 : own_at (Cond.methodLink "java/lang/StringBuilder" 137 ⟨"java/lang/String", "<init>", "(Ljava/lang/StringBuilder;)V"⟩) := own_mk 112 rfl
theorem wd_113 : own_at (Cond.instanceMethod ⟨"java/lang/String", "<init>", "(Ljava/lang/StringBuilder;)V"⟩) := own_mk 113 rfl
theorem wd_114 : own_at (Cond.code ⟨"java/lang/String", "<init>", "(Ljava/lang/StringBuilder;)V"⟩ jdk_42_method_53_code 2 none) := own_mk 114 rfl
theorem wd_115 : own_at (Cond.methodLink "java/lang/String" 489 ⟨"java/lang/String", "<init>", "(Ljava/lang/AbstractStringBuilder;Ljava/lang/Void;)V"⟩) := own_mk 115 rfl
theorem wd_116 : own_at (Cond.instanceMethod ⟨"java/lang/String", "<init>", "(Ljava/lang/AbstractStringBuilder;Ljava/lang/Void;)V"⟩) := own_mk 116 rfl
theorem wd_117 : own_at (Cond.code ⟨"java/lang/String", "<init>", "(Ljava/lang/AbstractStringBuilder;Ljava/lang/Void;)V"⟩ jdk_42_method_150_code 5 none) := own_mk 117 rfl
theorem wd_118 : own_at (Cond.methodLink "java/lang/String" 552 ⟨"java/lang/AbstractStringBuilder", "getValue", "()[B"⟩) := own_mk 118 rfl
theorem wd_119 : own_at (Cond.declares ⟨"java/lang/AbstractStringBuilder", "getValue", "()[B"⟩) := own_mk 119 rfl
theorem wd_120 : own_at (Cond.instanceMethod ⟨"java/lang/AbstractStringBuilder", "getValue", "()[B"⟩) := own_mk 120 rfl
theorem wd_121 : own_at (Cond.selects "java/lang/StringBuilder" ⟨"java/lang/AbstractStringBuilder", "getValue", "()[B"⟩ ⟨"java/lang/AbstractStringBuilder", "getValue", "()[B"⟩) := own_mk 121 rfl
theorem wd_122 : own_at (Cond.code ⟨"java/lang/AbstractStringBuilder", "getValue", "()[B"⟩ jdk_68_method_64_code 1 (Option.some (FieldType.array FieldType.byte))) := own_mk 122 rfl
theorem wd_123 : own_at (Cond.methodLink "java/lang/String" 549 ⟨"java/lang/AbstractStringBuilder", "length", "()I"⟩) := own_mk 123 rfl
theorem wd_124 : own_at (Cond.declares ⟨"java/lang/AbstractStringBuilder", "length", "()I"⟩) := own_mk 124 rfl
theorem wd_125 : own_at (Cond.instanceMethod ⟨"java/lang/AbstractStringBuilder", "length", "()I"⟩) := own_mk 125 rfl
theorem wd_126 : own_at (Cond.selects "java/lang/StringBuilder" ⟨"java/lang/AbstractStringBuilder", "length", "()I"⟩ ⟨"java/lang/StringBuilder", "length", "()I"⟩) := own_mk 126 rfl
theorem wd_127 : own_at (Cond.instanceMethod ⟨"java/lang/StringBuilder", "length", "()I"⟩) := own_mk 127 rfl
theorem wd_128 : own_at (Cond.code ⟨"java/lang/StringBuilder", "length", "()I"⟩ jdk_67_method_93_code 1 (some .int)) := own_mk 128 rfl
theorem wd_129 : own_at (Cond.methodLink "java/lang/StringBuilder" 343 ⟨"java/lang/AbstractStringBuilder", "length", "()I"⟩) := own_mk 129 rfl
theorem wd_130 : own_at (Cond.code ⟨"java/lang/AbstractStringBuilder", "length", "()I"⟩ jdk_68_method_6_code 1 (some .int)) := own_mk 130 rfl
theorem wd_131 : own_at (Cond.methodLink "java/lang/String" 1047 ⟨"java/lang/AbstractStringBuilder", "isLatin1", "()Z"⟩) := own_mk 131 rfl
theorem wd_132 : own_at (Cond.declares ⟨"java/lang/AbstractStringBuilder", "isLatin1", "()Z"⟩) := own_mk 132 rfl
theorem wd_133 : own_at (Cond.instanceMethod ⟨"java/lang/AbstractStringBuilder", "isLatin1", "()Z"⟩) := own_mk 133 rfl
theorem wd_134 : own_at (Cond.selects "java/lang/StringBuilder" ⟨"java/lang/AbstractStringBuilder", "isLatin1", "()Z"⟩ ⟨"java/lang/AbstractStringBuilder", "isLatin1", "()Z"⟩) := own_mk 134 rfl
theorem wd_135 : own_at (Cond.code ⟨"java/lang/AbstractStringBuilder", "isLatin1", "()Z"⟩ jdk_68_method_68_code 1 (some .boolean)) := own_mk 135 rfl
theorem wd_136 : own_at (Cond.methodLink "java/lang/String" 54 ⟨"java/util/Arrays", "copyOfRange", "([BII)[B"⟩) := own_mk 136 rfl
theorem wd_137 : own_at (Cond.static ⟨"java/util/Arrays", "copyOfRange", "([BII)[B"⟩) := own_mk 137 rfl
theorem wd_138 : own_at (Cond.initialized "java/util/Arrays") := own_mk 138 rfl
theorem wd_139 : own_at (Cond.code ⟨"java/util/Arrays", "copyOfRange", "([BII)[B"⟩ jdk_65_method_132_code 3 (Option.some (FieldType.array FieldType.byte))) := own_mk 139 rfl
theorem wd_140 : own_at (Cond.methodLink "java/util/Arrays" 310 ⟨"[B", "clone", "()Ljava/lang/Object;"⟩) := own_mk 140 rfl
theorem wd_141 : own_at (Cond.sameMethod "[B" "java/lang/Object" "clone" "()Ljava/lang/Object;") := own_mk 141 rfl
theorem wd_143 : own_at (Cond.instanceMethod ⟨"java/lang/Object", "clone", "()Ljava/lang/Object;"⟩) := own_mk 143 rfl
theorem wd_144 : own_at (Cond.selects "[B" ⟨"[B", "clone", "()Ljava/lang/Object;"⟩ ⟨"java/lang/Object", "clone", "()Ljava/lang/Object;"⟩) := own_mk 144 rfl
theorem wd_145 : own_at (Cond.native ⟨"java/lang/Object", "clone", "()Ljava/lang/Object;"⟩) := own_mk 145 rfl
theorem wd_146 : own_at (Cond.castable "[B" "java/lang/Cloneable") := own_mk 146 rfl
theorem wd_147 : own_at (Cond.classLink "java/util/Arrays" 311 "[B") := own_mk 147 rfl
theorem wd_149 : own_at (Cond.methodLink "com/example/inflow/inflow/model/DeploymentException" 24 ⟨"com/example/inflow/inflow/model/DeploymentException", "<init>", "(Ljava/lang/String;)V"⟩) := own_mk 149 rfl
theorem wd_150 : own_at (Cond.instanceMethod ⟨"com/example/inflow/inflow/model/DeploymentException", "<init>", "(Ljava/lang/String;)V"⟩) := own_mk 150 rfl
theorem wd_151 : own_at (Cond.code ⟨"com/example/inflow/inflow/model/DeploymentException", "<init>", "(Ljava/lang/String;)V"⟩ prog_8_method_3_code 2 none) := own_mk 151 rfl
theorem wd_152 : own_at (Cond.methodLink "com/example/inflow/inflow/model/DeploymentException" 13 ⟨"java/lang/RuntimeException", "<init>", "(Ljava/lang/String;)V"⟩) := own_mk 152 rfl
theorem wd_153 : own_at (Cond.instanceMethod ⟨"java/lang/RuntimeException", "<init>", "(Ljava/lang/String;)V"⟩) := own_mk 153 rfl
theorem wd_155 : own_at (Cond.initialized "java/lang/RuntimeException") := own_mk 155 rfl
theorem wd_156 : own_at (Cond.code ⟨"java/lang/RuntimeException", "<init>", "(Ljava/lang/String;)V"⟩ jdk_58_method_2_code 2 none) := own_mk 156 rfl
theorem wd_157 : own_at (Cond.methodLink "java/lang/RuntimeException" 7 ⟨"java/lang/Exception", "<init>", "(Ljava/lang/String;)V"⟩) := own_mk 157 rfl
theorem wd_158 : own_at (Cond.instanceMethod ⟨"java/lang/Exception", "<init>", "(Ljava/lang/String;)V"⟩) := own_mk 158 rfl
theorem wd_161 : own_at (Cond.initialized "java/lang/Exception") := own_mk 161 rfl
theorem wd_162 : own_at (Cond.code ⟨"java/lang/Exception", "<init>", "(Ljava/lang/String;)V"⟩ jdk_59_method_2_code 2 none) := own_mk 162 rfl
theorem wd_163 : own_at (Cond.methodLink "java/lang/Exception" 7 ⟨"java/lang/Throwable", "<init>", "(Ljava/lang/String;)V"⟩) := own_mk 163 rfl
theorem wd_164 : own_at (Cond.instanceMethod ⟨"java/lang/Throwable", "<init>", "(Ljava/lang/String;)V"⟩) := own_mk 164 rfl
theorem wd_167 : own_at (Cond.initialized "java/lang/Throwable") := own_mk 167 rfl
theorem wd_168 : own_at (Cond.code ⟨"java/lang/Throwable", "<init>", "(Ljava/lang/String;)V"⟩ jdk_78_method_2_code 2 none) := own_mk 168 rfl
theorem wd_169 : own_at (Cond.methodLink "java/lang/Throwable" 1 ⟨"java/lang/Object", "<init>", "()V"⟩) := own_mk 169 rfl
theorem wd_170 : own_at (Cond.fieldLink "java/lang/Throwable" 7 "java/lang/Throwable" "cause" "Ljava/lang/Throwable;") := own_mk 170 rfl
theorem wd_171 : own_at (Cond.lays "com/example/inflow/inflow/model/DeploymentException" "java/lang/Throwable" "cause" "Ljava/lang/Throwable;") := own_mk 171 rfl
theorem wd_172 : own_at (Cond.fieldLink "java/lang/Throwable" 13 "java/lang/Throwable" "UNASSIGNED_STACK" "[Ljava/lang/StackTraceElement;") := own_mk 172 rfl
theorem wd_173 : own_at (Cond.fieldLink "java/lang/Throwable" 17 "java/lang/Throwable" "stackTrace" "[Ljava/lang/StackTraceElement;") := own_mk 173 rfl
theorem wd_174 : own_at (Cond.lays "com/example/inflow/inflow/model/DeploymentException" "java/lang/Throwable" "stackTrace" "[Ljava/lang/StackTraceElement;") := own_mk 174 rfl
theorem wd_175 : own_at (Cond.fieldLink "java/lang/Throwable" 20 "java/lang/Throwable" "SUPPRESSED_SENTINEL" "Ljava/util/List;") := own_mk 175 rfl
theorem wd_176 : own_at (Cond.fieldLink "java/lang/Throwable" 24 "java/lang/Throwable" "suppressedExceptions" "Ljava/util/List;") := own_mk 176 rfl
theorem wd_177 : own_at (Cond.lays "com/example/inflow/inflow/model/DeploymentException" "java/lang/Throwable" "suppressedExceptions" "Ljava/util/List;") := own_mk 177 rfl
theorem wd_178 : own_at (Cond.methodLink "java/lang/Throwable" 27 ⟨"java/lang/Throwable", "fillInStackTrace", "()Ljava/lang/Throwable;"⟩) := own_mk 178 rfl
theorem wd_179 : own_at (Cond.declares ⟨"java/lang/Throwable", "fillInStackTrace", "()Ljava/lang/Throwable;"⟩) := own_mk 179 rfl
theorem wd_180 : own_at (Cond.instanceMethod ⟨"java/lang/Throwable", "fillInStackTrace", "()Ljava/lang/Throwable;"⟩) := own_mk 180 rfl
theorem wd_181 : own_at (Cond.selects "com/example/inflow/inflow/model/DeploymentException" ⟨"java/lang/Throwable", "fillInStackTrace", "()Ljava/lang/Throwable;"⟩ ⟨"java/lang/Throwable", "fillInStackTrace", "()Ljava/lang/Throwable;"⟩) := own_mk 181 rfl
theorem wd_182 : own_at (Cond.arrayOver (FieldType.object "java/lang/Object")) := own_mk 182 rfl
theorem wd_183 : own_at (Cond.soleField "java/lang/Throwable" "backtrace") := own_mk 183 rfl
theorem wd_184 : own_at (Cond.soleField "java/lang/Throwable" "depth") := own_mk 184 rfl
theorem wd_185 : own_at (Cond.superclass "java/lang/Throwable" "java/lang/Object") := own_mk 185 rfl
theorem wd_186 : own_at (Cond.codeSync ⟨"java/lang/Throwable", "fillInStackTrace", "()Ljava/lang/Throwable;"⟩ jdk_78_method_18_code 1 (Option.some (FieldType.object "java/lang/Throwable"))) := own_mk 186 rfl
theorem wd_187 : own_at (Cond.instanceMethod ⟨"java/lang/Throwable", "fillInStackTrace", "(I)Ljava/lang/Throwable;"⟩) := own_mk 187 rfl
theorem wd_188 : own_at (Cond.native ⟨"java/lang/Throwable", "fillInStackTrace", "(I)Ljava/lang/Throwable;"⟩) := own_mk 188 rfl
theorem wd_189 : own_at (Cond.instanceMethod ⟨"java/lang/Throwable", "<init>", "()V"⟩) := own_mk 189 rfl
theorem wd_190 : own_at (Cond.code ⟨"java/lang/Throwable", "<init>", "()V"⟩ jdk_78_method_1_code 1 none) := own_mk 190 rfl
theorem wd_191 : own_at (Cond.methodLink "java/lang/Throwable" 202 ⟨"java/lang/Throwable", "fillInStackTrace", "(I)Ljava/lang/Throwable;"⟩) := own_mk 191 rfl
theorem wd_192 : own_at (Cond.lays "java/lang/Throwable" "java/lang/Throwable" "cause" "Ljava/lang/Throwable;") := own_mk 192 rfl
theorem wd_193 : own_at (Cond.lays "java/lang/Throwable" "java/lang/Throwable" "stackTrace" "[Ljava/lang/StackTraceElement;") := own_mk 193 rfl
theorem wd_194 : own_at (Cond.lays "java/lang/Throwable" "java/lang/Throwable" "detailMessage" "Ljava/lang/String;") := own_mk 194 rfl
theorem wd_196 : own_at (Cond.fieldLink "java/lang/Throwable" 198 "java/lang/Throwable" "backtrace" "Ljava/lang/Object;") := own_mk 196 rfl
theorem wd_197 : own_at (Cond.lays "java/lang/Throwable" "java/lang/Throwable" "backtrace" "Ljava/lang/Object;") := own_mk 197 rfl
theorem wd_198 : own_at (Cond.laysStatic "java/lang/Throwable" "UNASSIGNED_STACK" "[Ljava/lang/StackTraceElement;") := own_mk 198 rfl
theorem wd_199 : own_at (Cond.laysStatic "java/lang/Throwable" "SUPPRESSED_SENTINEL" "Ljava/util/List;") := own_mk 199 rfl
theorem wd_200 : own_at (Cond.selects "com/example/inflow/inflow/model/DeploymentException" ⟨"java/lang/Throwable", "fillInStackTrace", "(I)Ljava/lang/Throwable;"⟩ ⟨"java/lang/Throwable", "fillInStackTrace", "(I)Ljava/lang/Throwable;"⟩) := own_mk 200 rfl
theorem wd_201 : own_at (Cond.lays "com/example/inflow/inflow/model/DeploymentException" "java/lang/Throwable" "detailMessage" "Ljava/lang/String;") := own_mk 201 rfl
theorem wd_202 : own_at (Cond.lays "com/example/inflow/inflow/model/DeploymentException" "java/lang/Throwable" "backtrace" "Ljava/lang/Object;") := own_mk 202 rfl
theorem wd_203 : own_at (Cond.lays "com/example/inflow/inflow/model/DeploymentException" "java/lang/Throwable" "depth" "I") := own_mk 203 rfl
theorem wd_205 : own_at (Cond.fieldLink "java/lang/Throwable" 31 "java/lang/Throwable" "detailMessage" "Ljava/lang/String;") := own_mk 205 rfl
theorem wd_206 : own_at (Cond.methodLink "com/example/inflow/inflow/model/DeploymentExceptionForDescriptorPinLaw" 23 ⟨"com/example/inflow/inflow/model/DeploymentException", "getMessage", "()Ljava/lang/String;"⟩) := own_mk 206 rfl
theorem wd_207 : own_at (Cond.sameMethod "com/example/inflow/inflow/model/DeploymentException" "java/lang/Throwable" "getMessage" "()Ljava/lang/String;") := own_mk 207 rfl
theorem wd_208 : own_at (Cond.declares ⟨"java/lang/Throwable", "getMessage", "()Ljava/lang/String;"⟩) := own_mk 208 rfl
theorem wd_209 : own_at (Cond.instanceMethod ⟨"java/lang/Throwable", "getMessage", "()Ljava/lang/String;"⟩) := own_mk 209 rfl
theorem wd_210 : own_at (Cond.selects "com/example/inflow/inflow/model/DeploymentException" ⟨"com/example/inflow/inflow/model/DeploymentException", "getMessage", "()Ljava/lang/String;"⟩ ⟨"java/lang/Throwable", "getMessage", "()Ljava/lang/String;"⟩) := own_mk 210 rfl
theorem wd_211 : own_at (Cond.code ⟨"java/lang/Throwable", "getMessage", "()Ljava/lang/String;"⟩ jdk_78_method_6_code 1 (Option.some (FieldType.object "java/lang/String"))) := own_mk 211 rfl
theorem wd_212 : own_at (Cond.methodLink "com/example/inflow/inflow/model/DeploymentExceptionForDescriptorPinLaw" 27 ⟨"java/lang/String", "length", "()I"⟩) := own_mk 212 rfl
theorem wd_213 : own_at (Cond.methodLink "com/example/inflow/inflow/model/DeploymentExceptionForDescriptorPinLaw" 33 ⟨"com/example/inflow/inflow/model/DeploymentExceptionForDescriptorPinLaw", "at", "(Ljava/lang/String;IIII)Z"⟩) := own_mk 213 rfl
theorem wd_214 : own_at (Cond.static ⟨"com/example/inflow/inflow/model/DeploymentExceptionForDescriptorPinLaw", "at", "(Ljava/lang/String;IIII)Z"⟩) := own_mk 214 rfl
theorem wd_215 : own_at (Cond.code ⟨"com/example/inflow/inflow/model/DeploymentExceptionForDescriptorPinLaw", "at", "(Ljava/lang/String;IIII)Z"⟩ method_5_code 5 (some .boolean)) := own_mk 215 rfl
theorem wd_216 : own_at (Cond.methodLink "com/example/inflow/inflow/model/DeploymentExceptionForDescriptorPinLaw" 44 ⟨"java/lang/String", "charAt", "(I)C"⟩) := own_mk 216 rfl
theorem wd_217 : own_at (Cond.declares ⟨"java/lang/String", "charAt", "(I)C"⟩) := own_mk 217 rfl
theorem wd_218 : own_at (Cond.instanceMethod ⟨"java/lang/String", "charAt", "(I)C"⟩) := own_mk 218 rfl
theorem wd_219 : own_at (Cond.selects "java/lang/String" ⟨"java/lang/String", "charAt", "(I)C"⟩ ⟨"java/lang/String", "charAt", "(I)C"⟩) := own_mk 219 rfl
theorem wd_220 : own_at (Cond.code ⟨"java/lang/String", "charAt", "(I)C"⟩ jdk_42_method_56_code 2 (some .char)) := own_mk 220 rfl
theorem wd_221 : own_at (Cond.methodLink "java/lang/String" 492 ⟨"java/lang/String", "isLatin1", "()Z"⟩) := own_mk 221 rfl
theorem wd_222 : own_at (Cond.declares ⟨"java/lang/String", "isLatin1", "()Z"⟩) := own_mk 222 rfl
theorem wd_223 : own_at (Cond.instanceMethod ⟨"java/lang/String", "isLatin1", "()Z"⟩) := own_mk 223 rfl
theorem wd_224 : own_at (Cond.selects "java/lang/String" ⟨"java/lang/String", "isLatin1", "()Z"⟩ ⟨"java/lang/String", "isLatin1", "()Z"⟩) := own_mk 224 rfl
theorem wd_225 : own_at (Cond.code ⟨"java/lang/String", "isLatin1", "()Z"⟩ jdk_42_method_154_code 1 (some .boolean)) := own_mk 225 rfl
theorem wd_226 : own_at (Cond.methodLink "java/lang/String" 495 ⟨"java/lang/StringLatin1", "charAt", "([BI)C"⟩) := own_mk 226 rfl
theorem wd_227 : own_at (Cond.static ⟨"java/lang/StringLatin1", "charAt", "([BI)C"⟩) := own_mk 227 rfl
theorem wd_228 : own_at (Cond.initialized "java/lang/StringLatin1") := own_mk 228 rfl
theorem wd_229 : own_at (Cond.code ⟨"java/lang/StringLatin1", "charAt", "([BI)C"⟩ jdk_43_method_2_code 2 (some .char)) := own_mk 229 rfl
theorem wd_230 : own_at (Cond.methodLink "java/lang/StringLatin1" 9 ⟨"java/lang/String", "checkIndex", "(II)V"⟩) := own_mk 230 rfl
theorem wd_231 : own_at (Cond.static ⟨"java/lang/String", "checkIndex", "(II)V"⟩) := own_mk 231 rfl
theorem wd_232 : own_at (Cond.code ⟨"java/lang/String", "checkIndex", "(II)V"⟩ jdk_42_method_155_code 2 none) := own_mk 232 rfl
theorem wd_233 : own_at (Cond.fieldLink "java/lang/String" 1053 "jdk/internal/util/Preconditions" "SIOOBE_FORMATTER" "Ljava/util/function/BiFunction;") := own_mk 233 rfl
theorem wd_234 : own_at (Cond.initialized "jdk/internal/util/Preconditions") := own_mk 234 rfl
theorem wd_235 : own_at (Cond.methodLink "java/lang/String" 1059 ⟨"jdk/internal/util/Preconditions", "checkIndex", "(IILjava/util/function/BiFunction;)I"⟩) := own_mk 235 rfl
theorem wd_236 : own_at (Cond.static ⟨"jdk/internal/util/Preconditions", "checkIndex", "(IILjava/util/function/BiFunction;)I"⟩) := own_mk 236 rfl
theorem wd_237 : own_at (Cond.code ⟨"jdk/internal/util/Preconditions", "checkIndex", "(IILjava/util/function/BiFunction;)I"⟩ jdk_41_method_11_code 3 (some .int)) := own_mk 237 rfl
theorem wd_238 : own_at (Cond.methodLink "com/example/inflow/inflow/model/DeploymentExceptionForDescriptorPinLaw" 48 ⟨"com/example/inflow/inflow/model/DeploymentExceptionForDescriptorPinLaw", "expected", "(IIII)C"⟩) := own_mk 238 rfl
theorem wd_239 : own_at (Cond.static ⟨"com/example/inflow/inflow/model/DeploymentExceptionForDescriptorPinLaw", "expected", "(IIII)C"⟩) := own_mk 239 rfl
theorem wd_240 : own_at (Cond.code ⟨"com/example/inflow/inflow/model/DeploymentExceptionForDescriptorPinLaw", "expected", "(IIII)C"⟩ method_6_code 6 (some .char)) := own_mk 240 rfl
theorem wd_241 : own_at (Cond.stringLink "com/example/inflow/inflow/model/DeploymentExceptionForDescriptorPinLaw" 52 "Cannot deploy ") := own_mk 241 rfl
theorem wd_242 : own_at (Cond.methodLink "com/example/inflow/inflow/model/DeploymentExceptionForDescriptorPinLaw" 40 ⟨"java/lang/String", "valueOf", "(C)Ljava/lang/String;"⟩) := own_mk 242 rfl
theorem wd_243 : own_at (Cond.static ⟨"java/lang/String", "valueOf", "(C)Ljava/lang/String;"⟩) := own_mk 243 rfl
theorem wd_244 : own_at (Cond.code ⟨"java/lang/String", "valueOf", "(C)Ljava/lang/String;"⟩ jdk_42_method_139_code 1 (Option.some (FieldType.object "java/lang/String"))) := own_mk 244 rfl
theorem wd_245 : own_at (Cond.methodLink "java/lang/String" 1015 ⟨"java/lang/StringLatin1", "canEncode", "(C)Z"⟩) := own_mk 245 rfl
theorem wd_246 : own_at (Cond.static ⟨"java/lang/StringLatin1", "canEncode", "(C)Z"⟩) := own_mk 246 rfl
theorem wd_247 : own_at (Cond.code ⟨"java/lang/StringLatin1", "canEncode", "(C)Z"⟩ jdk_43_method_3_code 1 (some .boolean)) := own_mk 247 rfl
theorem wd_248 : own_at (Cond.classLink "java/lang/String" 10 "java/lang/String") := own_mk 248 rfl
theorem wd_249 : own_at (Cond.methodLink "java/lang/String" 1018 ⟨"java/lang/StringLatin1", "toBytes", "(C)[B"⟩) := own_mk 249 rfl
theorem wd_250 : own_at (Cond.static ⟨"java/lang/StringLatin1", "toBytes", "(C)[B"⟩) := own_mk 250 rfl
theorem wd_251 : own_at (Cond.code ⟨"java/lang/StringLatin1", "toBytes", "(C)[B"⟩ jdk_43_method_46_code 1 (Option.some (FieldType.array FieldType.byte))) := own_mk 251 rfl
theorem wd_252 : own_at (Cond.methodLink "java/lang/String" 209 ⟨"java/lang/String", "<init>", "([BB)V"⟩) := own_mk 252 rfl
theorem wd_253 : own_at (Cond.instanceMethod ⟨"java/lang/String", "<init>", "([BB)V"⟩) := own_mk 253 rfl
theorem wd_254 : own_at (Cond.code ⟨"java/lang/String", "<init>", "([BB)V"⟩ jdk_42_method_151_code 3 none) := own_mk 254 rfl
theorem wd_255 : own_at (Cond.methodLink "java/lang/AbstractStringBuilder" 104 ⟨"java/lang/AbstractStringBuilder", "newCapacity", "(I)I"⟩) := own_mk 255 rfl
theorem wd_256 : own_at (Cond.instanceMethod ⟨"java/lang/AbstractStringBuilder", "newCapacity", "(I)I"⟩) := own_mk 256 rfl
theorem wd_257 : own_at (Cond.privateMethod ⟨"java/lang/AbstractStringBuilder", "newCapacity", "(I)I"⟩) := own_mk 257 rfl
theorem wd_258 : own_at (Cond.selects "java/lang/StringBuilder" ⟨"java/lang/AbstractStringBuilder", "newCapacity", "(I)I"⟩ ⟨"java/lang/AbstractStringBuilder", "newCapacity", "(I)I"⟩) := own_mk 258 rfl
theorem wd_259 : own_at (Cond.code ⟨"java/lang/AbstractStringBuilder", "newCapacity", "(I)I"⟩ jdk_68_method_10_code 6 (some .int)) := own_mk 259 rfl
theorem wd_260 : own_at (Cond.methodLink "java/lang/AbstractStringBuilder" 114 ⟨"jdk/internal/util/ArraysSupport", "newLength", "(III)I"⟩) := own_mk 260 rfl
theorem wd_261 : own_at (Cond.static ⟨"jdk/internal/util/ArraysSupport", "newLength", "(III)I"⟩) := own_mk 261 rfl
theorem wd_262 : own_at (Cond.initialized "jdk/internal/util/ArraysSupport") := own_mk 262 rfl
theorem wd_263 : own_at (Cond.code ⟨"jdk/internal/util/ArraysSupport", "newLength", "(III)I"⟩ jdk_48_method_27_code 4 (some .int)) := own_mk 263 rfl
theorem wd_264 : own_at (Cond.methodLink "jdk/internal/util/ArraysSupport" 194 ⟨"java/lang/Math", "max", "(II)I"⟩) := own_mk 264 rfl
theorem wd_265 : own_at (Cond.static ⟨"java/lang/Math", "max", "(II)I"⟩) := own_mk 265 rfl
theorem wd_266 : own_at (Cond.initialized "java/lang/Math") := own_mk 266 rfl
theorem wd_267 : own_at (Cond.code ⟨"java/lang/Math", "max", "(II)I"⟩ jdk_29_method_65_code 2 (some .int)) := own_mk 267 rfl
theorem wd_268 : own_at (Cond.constant "jdk/internal/util/ArraysSupport" 200 (2147483639 : Int32)) := own_mk 268 rfl
theorem wd_269 : own_at (Cond.constant "java/lang/AbstractStringBuilder" 39 (2147483647 : Int32)) := own_mk 269 rfl
theorem wd_270 : own_at (Cond.methodLink "java/lang/AbstractStringBuilder" 108 ⟨"java/util/Arrays", "copyOf", "([BI)[B"⟩) := own_mk 270 rfl
theorem wd_271 : own_at (Cond.static ⟨"java/util/Arrays", "copyOf", "([BI)[B"⟩) := own_mk 271 rfl
theorem wd_272 : own_at (Cond.code ⟨"java/util/Arrays", "copyOf", "([BI)[B"⟩ jdk_65_method_121_code 3 (Option.some (FieldType.array FieldType.byte))) := own_mk 272 rfl
theorem wd_273 : own_at (Cond.methodLink "java/util/Arrays" 304 ⟨"java/lang/Math", "min", "(II)I"⟩) := own_mk 273 rfl
theorem wd_274 : own_at (Cond.static ⟨"java/lang/Math", "min", "(II)I"⟩) := own_mk 274 rfl
theorem wd_275 : own_at (Cond.code ⟨"java/lang/Math", "min", "(II)I"⟩ jdk_29_method_69_code 2 (some .int)) := own_mk 275 rfl
theorem wd_276 : own_at (Cond.methodLink "java/util/Arrays" 150 ⟨"java/lang/System", "arraycopy", "(Ljava/lang/Object;ILjava/lang/Object;II)V"⟩) := own_mk 276 rfl
theorem wd_277 : own_at (Cond.methodLink "java/util/Arrays" 339 ⟨"java/util/Arrays", "copyOfRangeByte", "([BII)[B"⟩) := own_mk 277 rfl
theorem wd_278 : own_at (Cond.static ⟨"java/util/Arrays", "copyOfRangeByte", "([BII)[B"⟩) := own_mk 278 rfl
theorem wd_279 : own_at (Cond.code ⟨"java/util/Arrays", "copyOfRangeByte", "([BII)[B"⟩ jdk_65_method_133_code 5 (Option.some (FieldType.array FieldType.byte))) := own_mk 279 rfl
theorem wd_280 : own_at (Cond.methodLink "java/util/Arrays" 343 ⟨"java/util/Arrays", "checkLength", "(II)V"⟩) := own_mk 280 rfl
theorem wd_281 : own_at (Cond.static ⟨"java/util/Arrays", "checkLength", "(II)V"⟩) := own_mk 281 rfl
theorem wd_282 : own_at (Cond.code ⟨"java/util/Arrays", "checkLength", "(II)V"⟩ jdk_65_method_131_code 2 none) := own_mk 282 rfl
theorem wd_283 : own_at (Cond.methodLink "java/lang/String" 177 ⟨"java/lang/StringUTF16", "compress", "([CII)[B"⟩) := own_mk 283 rfl
theorem wd_284 : own_at (Cond.static ⟨"java/lang/StringUTF16", "compress", "([CII)[B"⟩) := own_mk 284 rfl
theorem wd_285 : own_at (Cond.initialized "java/lang/StringUTF16") := own_mk 285 rfl
theorem wd_286 : own_at (Cond.code ⟨"java/lang/StringUTF16", "compress", "([CII)[B"⟩ jdk_52_method_16_code 6 (Option.some (FieldType.array FieldType.byte))) := own_mk 286 rfl
theorem wd_287 : own_at (Cond.methodLink "java/lang/StringUTF16" 115 ⟨"java/lang/StringUTF16", "compress", "([CI[BII)I"⟩) := own_mk 287 rfl
theorem wd_288 : own_at (Cond.static ⟨"java/lang/StringUTF16", "compress", "([CI[BII)I"⟩) := own_mk 288 rfl
theorem wd_289 : own_at (Cond.code ⟨"java/lang/StringUTF16", "compress", "([CI[BII)I"⟩ jdk_52_method_21_code 7 (some .int)) := own_mk 289 rfl
theorem wd_290 : own_at (Cond.methodLink "java/lang/String" 47 ⟨"java/lang/StringUTF16", "coderFromArrayLen", "([BI)B"⟩) := own_mk 290 rfl
theorem wd_291 : own_at (Cond.static ⟨"java/lang/StringUTF16", "coderFromArrayLen", "([BI)B"⟩) := own_mk 291 rfl
theorem wd_292 : own_at (Cond.code ⟨"java/lang/StringUTF16", "coderFromArrayLen", "([BI)B"⟩ jdk_52_method_15_code 2 (some .byte)) := own_mk 292 rfl
theorem own_wS {a0 : Array Value} {Z : State} (hw : own_hw a0 Z) : ∀ a ∈ Bundle.stringAtoms, a.before a0 Z = true := by
  intro d hd
  simp only [Bundle.stringAtoms, List.mem_cons, List.not_mem_nil, or_false] at hd
  rcases hd with rfl | rfl | rfl | rfl | rfl | rfl | rfl
  · exact (wd_9 hw)
  · exact (wd_8 hw)
  · exact (wd_22 hw)
  · exact (wd_23 hw)
  · exact (wd_24 hw)
  · exact (wd_25 hw)
  · exact (wd_26 hw)
theorem d_0 : Dc code 0 (.iload_n 0) 1 1 := ⟨at_0, rfl⟩
theorem d_1 : Dc code 1 (.iconst 3) 1 2 := ⟨at_1, rfl⟩
theorem d_2 : Dc code 2 (.iand) 1 3 := ⟨at_2, rfl⟩
theorem d_3 : Dc code 3 (.istore_n 3) 1 4 := ⟨at_3, rfl⟩
theorem d_4 : Dc code 4 (.iload_n 0) 1 5 := ⟨at_4, rfl⟩
theorem d_5 : Dc code 5 (.iconst 2) 1 6 := ⟨at_5, rfl⟩
theorem d_6 : Dc code 6 (.iushr) 1 7 := ⟨at_6, rfl⟩
theorem d_7 : Dc code 7 (.iconst 3) 1 8 := ⟨at_7, rfl⟩
theorem d_8 : Dc code 8 (.iand) 1 9 := ⟨at_8, rfl⟩
theorem d_9 : Dc code 9 (.istore 4) 2 11 := ⟨at_9, rfl⟩
theorem d_11 : Dc code 11 (.iload_n 1) 1 12 := ⟨at_11, rfl⟩
theorem d_12 : Dc code 12 (.iconst 0) 1 13 := ⟨at_12, rfl⟩
theorem d_13 : Dc code 13 (.invokestatic 7) 3 16 := ⟨at_13, rfl⟩
theorem d_16 : Dc code 16 (.iload_n 1) 1 17 := ⟨at_16, rfl⟩
theorem d_17 : Dc code 17 (.iconst 1) 1 18 := ⟨at_17, rfl⟩
theorem d_18 : Dc code 18 (.invokestatic 7) 3 21 := ⟨at_18, rfl⟩
theorem d_21 : Dc code 21 (.iload_n 1) 1 22 := ⟨at_21, rfl⟩
theorem d_22 : Dc code 22 (.iconst 2) 1 23 := ⟨at_22, rfl⟩
theorem d_23 : Dc code 23 (.invokestatic 7) 3 26 := ⟨at_23, rfl⟩
theorem d_26 : Dc code 26 (.iload_n 3) 1 27 := ⟨at_26, rfl⟩
theorem d_27 : Dc code 27 (.invokestatic 13) 3 30 := ⟨at_27, rfl⟩
theorem d_30 : Dc code 30 (.astore 5) 2 32 := ⟨at_30, rfl⟩
theorem d_32 : Dc code 32 (.iload_n 2) 1 33 := ⟨at_32, rfl⟩
theorem d_33 : Dc code 33 (.iconst 0) 1 34 := ⟨at_33, rfl⟩
theorem d_34 : Dc code 34 (.invokestatic 7) 3 37 := ⟨at_34, rfl⟩
theorem d_37 : Dc code 37 (.iload_n 2) 1 38 := ⟨at_37, rfl⟩
theorem d_38 : Dc code 38 (.iconst 1) 1 39 := ⟨at_38, rfl⟩
theorem d_39 : Dc code 39 (.invokestatic 7) 3 42 := ⟨at_39, rfl⟩
theorem d_42 : Dc code 42 (.iload_n 2) 1 43 := ⟨at_42, rfl⟩
theorem d_43 : Dc code 43 (.iconst 2) 1 44 := ⟨at_43, rfl⟩
theorem d_44 : Dc code 44 (.invokestatic 7) 3 47 := ⟨at_44, rfl⟩
theorem d_47 : Dc code 47 (.iload 4) 2 49 := ⟨at_47, rfl⟩
theorem d_49 : Dc code 49 (.invokestatic 13) 3 52 := ⟨at_49, rfl⟩
theorem d_52 : Dc code 52 (.astore 6) 2 54 := ⟨at_52, rfl⟩
theorem d_54 : Dc code 54 (.aload 5) 2 56 := ⟨at_54, rfl⟩
theorem d_56 : Dc code 56 (.aload 6) 2 58 := ⟨at_56, rfl⟩
theorem d_58 : Dc code 58 (.invokestatic 17) 3 61 := ⟨at_58, rfl⟩
theorem d_61 : Dc code 61 (.astore 7) 2 63 := ⟨at_61, rfl⟩
theorem d_63 : Dc code 63 (.aload 7) 2 65 := ⟨at_63, rfl⟩
theorem d_65 : Bc code 65 (.ifnonnull) 70 68 := ⟨5, at_65, by decide, by decide, rfl⟩
theorem d_70 : Dc code 70 (.aload 7) 2 72 := ⟨at_70, rfl⟩
theorem d_72 : Dc code 72 (.invokevirtual 23) 3 75 := ⟨at_72, rfl⟩
theorem d_75 : Dc code 75 (.astore 8) 2 77 := ⟨at_75, rfl⟩
theorem d_77 : Dc code 77 (.aload 8) 2 79 := ⟨at_77, rfl⟩
theorem d_79 : Bc code 79 (.ifnonnull) 84 82 := ⟨5, at_79, by decide, by decide, rfl⟩
theorem d_84 : Dc code 84 (.aload 8) 2 86 := ⟨at_84, rfl⟩
theorem d_86 : Dc code 86 (.invokevirtual 27) 3 89 := ⟨at_86, rfl⟩
theorem d_89 : Dc code 89 (.bipush 16) 2 91 := ⟨at_89, rfl⟩
theorem d_91 : Dc code 91 (.iload_n 3) 1 92 := ⟨at_91, rfl⟩
theorem d_92 : Dc code 92 (.iadd) 1 93 := ⟨at_92, rfl⟩
theorem d_93 : Dc code 93 (.iload 4) 2 95 := ⟨at_93, rfl⟩
theorem d_95 : Dc code 95 (.iadd) 1 96 := ⟨at_95, rfl⟩
theorem d_96 : Bc code 96 (.if_icmp .eq) 101 99 := ⟨5, at_96, by decide, by decide, rfl⟩
theorem d_101 : Dc code 101 (.aload 8) 2 103 := ⟨at_101, rfl⟩
theorem d_103 : Dc code 103 (.iconst 0) 1 104 := ⟨at_103, rfl⟩
theorem d_104 : Dc code 104 (.iload_n 3) 1 105 := ⟨at_104, rfl⟩
theorem d_105 : Dc code 105 (.iload_n 1) 1 106 := ⟨at_105, rfl⟩
theorem d_106 : Dc code 106 (.iload_n 2) 1 107 := ⟨at_106, rfl⟩
theorem d_107 : Dc code 107 (.invokestatic 33) 3 110 := ⟨at_107, rfl⟩
theorem d_110 : Bc code 110 (.ifCond .eq) 385 113 := ⟨275, at_110, by decide, by decide, rfl⟩
theorem d_113 : Dc code 113 (.aload 8) 2 115 := ⟨at_113, rfl⟩
theorem d_115 : Dc code 115 (.iconst 1) 1 116 := ⟨at_115, rfl⟩
theorem d_116 : Dc code 116 (.iload_n 3) 1 117 := ⟨at_116, rfl⟩
theorem d_117 : Dc code 117 (.iload_n 1) 1 118 := ⟨at_117, rfl⟩
theorem d_118 : Dc code 118 (.iload_n 2) 1 119 := ⟨at_118, rfl⟩
theorem d_119 : Dc code 119 (.invokestatic 33) 3 122 := ⟨at_119, rfl⟩
theorem d_122 : Bc code 122 (.ifCond .eq) 385 125 := ⟨263, at_122, by decide, by decide, rfl⟩
theorem d_125 : Dc code 125 (.aload 8) 2 127 := ⟨at_125, rfl⟩
theorem d_127 : Dc code 127 (.iconst 2) 1 128 := ⟨at_127, rfl⟩
theorem d_128 : Dc code 128 (.iload_n 3) 1 129 := ⟨at_128, rfl⟩
theorem d_129 : Dc code 129 (.iload_n 1) 1 130 := ⟨at_129, rfl⟩
theorem d_130 : Dc code 130 (.iload_n 2) 1 131 := ⟨at_130, rfl⟩
theorem d_131 : Dc code 131 (.invokestatic 33) 3 134 := ⟨at_131, rfl⟩
theorem d_134 : Bc code 134 (.ifCond .eq) 385 137 := ⟨251, at_134, by decide, by decide, rfl⟩
theorem d_137 : Dc code 137 (.aload 8) 2 139 := ⟨at_137, rfl⟩
theorem d_139 : Dc code 139 (.iconst 3) 1 140 := ⟨at_139, rfl⟩
theorem d_140 : Dc code 140 (.iload_n 3) 1 141 := ⟨at_140, rfl⟩
theorem d_141 : Dc code 141 (.iload_n 1) 1 142 := ⟨at_141, rfl⟩
theorem d_142 : Dc code 142 (.iload_n 2) 1 143 := ⟨at_142, rfl⟩
theorem d_143 : Dc code 143 (.invokestatic 33) 3 146 := ⟨at_143, rfl⟩
theorem d_146 : Bc code 146 (.ifCond .eq) 385 149 := ⟨239, at_146, by decide, by decide, rfl⟩
theorem d_149 : Dc code 149 (.aload 8) 2 151 := ⟨at_149, rfl⟩
theorem d_151 : Dc code 151 (.iconst 4) 1 152 := ⟨at_151, rfl⟩
theorem d_152 : Dc code 152 (.iload_n 3) 1 153 := ⟨at_152, rfl⟩
theorem d_153 : Dc code 153 (.iload_n 1) 1 154 := ⟨at_153, rfl⟩
theorem d_154 : Dc code 154 (.iload_n 2) 1 155 := ⟨at_154, rfl⟩
theorem d_155 : Dc code 155 (.invokestatic 33) 3 158 := ⟨at_155, rfl⟩
theorem d_158 : Bc code 158 (.ifCond .eq) 385 161 := ⟨227, at_158, by decide, by decide, rfl⟩
theorem d_161 : Dc code 161 (.aload 8) 2 163 := ⟨at_161, rfl⟩
theorem d_163 : Dc code 163 (.iconst 5) 1 164 := ⟨at_163, rfl⟩
theorem d_164 : Dc code 164 (.iload_n 3) 1 165 := ⟨at_164, rfl⟩
theorem d_165 : Dc code 165 (.iload_n 1) 1 166 := ⟨at_165, rfl⟩
theorem d_166 : Dc code 166 (.iload_n 2) 1 167 := ⟨at_166, rfl⟩
theorem d_167 : Dc code 167 (.invokestatic 33) 3 170 := ⟨at_167, rfl⟩
theorem d_170 : Bc code 170 (.ifCond .eq) 385 173 := ⟨215, at_170, by decide, by decide, rfl⟩
theorem d_173 : Dc code 173 (.aload 8) 2 175 := ⟨at_173, rfl⟩
theorem d_175 : Dc code 175 (.bipush 6) 2 177 := ⟨at_175, rfl⟩
theorem d_177 : Dc code 177 (.iload_n 3) 1 178 := ⟨at_177, rfl⟩
theorem d_178 : Dc code 178 (.iload_n 1) 1 179 := ⟨at_178, rfl⟩
theorem d_179 : Dc code 179 (.iload_n 2) 1 180 := ⟨at_179, rfl⟩
theorem d_180 : Dc code 180 (.invokestatic 33) 3 183 := ⟨at_180, rfl⟩
theorem d_183 : Bc code 183 (.ifCond .eq) 385 186 := ⟨202, at_183, by decide, by decide, rfl⟩
theorem d_186 : Dc code 186 (.aload 8) 2 188 := ⟨at_186, rfl⟩
theorem d_188 : Dc code 188 (.bipush 7) 2 190 := ⟨at_188, rfl⟩
theorem d_190 : Dc code 190 (.iload_n 3) 1 191 := ⟨at_190, rfl⟩
theorem d_191 : Dc code 191 (.iload_n 1) 1 192 := ⟨at_191, rfl⟩
theorem d_192 : Dc code 192 (.iload_n 2) 1 193 := ⟨at_192, rfl⟩
theorem d_193 : Dc code 193 (.invokestatic 33) 3 196 := ⟨at_193, rfl⟩
theorem d_196 : Bc code 196 (.ifCond .eq) 385 199 := ⟨189, at_196, by decide, by decide, rfl⟩
theorem d_199 : Dc code 199 (.aload 8) 2 201 := ⟨at_199, rfl⟩
theorem d_201 : Dc code 201 (.bipush 8) 2 203 := ⟨at_201, rfl⟩
theorem d_203 : Dc code 203 (.iload_n 3) 1 204 := ⟨at_203, rfl⟩
theorem d_204 : Dc code 204 (.iload_n 1) 1 205 := ⟨at_204, rfl⟩
theorem d_205 : Dc code 205 (.iload_n 2) 1 206 := ⟨at_205, rfl⟩
theorem d_206 : Dc code 206 (.invokestatic 33) 3 209 := ⟨at_206, rfl⟩
theorem d_209 : Bc code 209 (.ifCond .eq) 385 212 := ⟨176, at_209, by decide, by decide, rfl⟩
theorem d_212 : Dc code 212 (.aload 8) 2 214 := ⟨at_212, rfl⟩
theorem d_214 : Dc code 214 (.bipush 9) 2 216 := ⟨at_214, rfl⟩
theorem d_216 : Dc code 216 (.iload_n 3) 1 217 := ⟨at_216, rfl⟩
theorem d_217 : Dc code 217 (.iload_n 1) 1 218 := ⟨at_217, rfl⟩
theorem d_218 : Dc code 218 (.iload_n 2) 1 219 := ⟨at_218, rfl⟩
theorem d_219 : Dc code 219 (.invokestatic 33) 3 222 := ⟨at_219, rfl⟩
theorem d_222 : Bc code 222 (.ifCond .eq) 385 225 := ⟨163, at_222, by decide, by decide, rfl⟩
theorem d_225 : Dc code 225 (.aload 8) 2 227 := ⟨at_225, rfl⟩
theorem d_227 : Dc code 227 (.bipush 10) 2 229 := ⟨at_227, rfl⟩
theorem d_229 : Dc code 229 (.iload_n 3) 1 230 := ⟨at_229, rfl⟩
theorem d_230 : Dc code 230 (.iload_n 1) 1 231 := ⟨at_230, rfl⟩
theorem d_231 : Dc code 231 (.iload_n 2) 1 232 := ⟨at_231, rfl⟩
theorem d_232 : Dc code 232 (.invokestatic 33) 3 235 := ⟨at_232, rfl⟩
theorem d_235 : Bc code 235 (.ifCond .eq) 385 238 := ⟨150, at_235, by decide, by decide, rfl⟩
theorem d_238 : Dc code 238 (.aload 8) 2 240 := ⟨at_238, rfl⟩
theorem d_240 : Dc code 240 (.bipush 11) 2 242 := ⟨at_240, rfl⟩
theorem d_242 : Dc code 242 (.iload_n 3) 1 243 := ⟨at_242, rfl⟩
theorem d_243 : Dc code 243 (.iload_n 1) 1 244 := ⟨at_243, rfl⟩
theorem d_244 : Dc code 244 (.iload_n 2) 1 245 := ⟨at_244, rfl⟩
theorem d_245 : Dc code 245 (.invokestatic 33) 3 248 := ⟨at_245, rfl⟩
theorem d_248 : Bc code 248 (.ifCond .eq) 385 251 := ⟨137, at_248, by decide, by decide, rfl⟩
theorem d_251 : Dc code 251 (.aload 8) 2 253 := ⟨at_251, rfl⟩
theorem d_253 : Dc code 253 (.bipush 12) 2 255 := ⟨at_253, rfl⟩
theorem d_255 : Dc code 255 (.iload_n 3) 1 256 := ⟨at_255, rfl⟩
theorem d_256 : Dc code 256 (.iload_n 1) 1 257 := ⟨at_256, rfl⟩
theorem d_257 : Dc code 257 (.iload_n 2) 1 258 := ⟨at_257, rfl⟩
theorem d_258 : Dc code 258 (.invokestatic 33) 3 261 := ⟨at_258, rfl⟩
theorem d_261 : Bc code 261 (.ifCond .eq) 385 264 := ⟨124, at_261, by decide, by decide, rfl⟩
theorem d_264 : Dc code 264 (.aload 8) 2 266 := ⟨at_264, rfl⟩
theorem d_266 : Dc code 266 (.bipush 13) 2 268 := ⟨at_266, rfl⟩
theorem d_268 : Dc code 268 (.iload_n 3) 1 269 := ⟨at_268, rfl⟩
theorem d_269 : Dc code 269 (.iload_n 1) 1 270 := ⟨at_269, rfl⟩
theorem d_270 : Dc code 270 (.iload_n 2) 1 271 := ⟨at_270, rfl⟩
theorem d_271 : Dc code 271 (.invokestatic 33) 3 274 := ⟨at_271, rfl⟩
theorem d_274 : Bc code 274 (.ifCond .eq) 385 277 := ⟨111, at_274, by decide, by decide, rfl⟩
theorem d_277 : Dc code 277 (.aload 8) 2 279 := ⟨at_277, rfl⟩
theorem d_279 : Dc code 279 (.bipush 14) 2 281 := ⟨at_279, rfl⟩
theorem d_281 : Dc code 281 (.iload_n 3) 1 282 := ⟨at_281, rfl⟩
theorem d_282 : Dc code 282 (.iload_n 1) 1 283 := ⟨at_282, rfl⟩
theorem d_283 : Dc code 283 (.iload_n 2) 1 284 := ⟨at_283, rfl⟩
theorem d_284 : Dc code 284 (.invokestatic 33) 3 287 := ⟨at_284, rfl⟩
theorem d_287 : Bc code 287 (.ifCond .eq) 385 290 := ⟨98, at_287, by decide, by decide, rfl⟩
theorem d_290 : Dc code 290 (.aload 8) 2 292 := ⟨at_290, rfl⟩
theorem d_292 : Dc code 292 (.bipush 15) 2 294 := ⟨at_292, rfl⟩
theorem d_294 : Dc code 294 (.iload_n 3) 1 295 := ⟨at_294, rfl⟩
theorem d_295 : Dc code 295 (.iload_n 1) 1 296 := ⟨at_295, rfl⟩
theorem d_296 : Dc code 296 (.iload_n 2) 1 297 := ⟨at_296, rfl⟩
theorem d_297 : Dc code 297 (.invokestatic 33) 3 300 := ⟨at_297, rfl⟩
theorem d_300 : Bc code 300 (.ifCond .eq) 385 303 := ⟨85, at_300, by decide, by decide, rfl⟩
theorem d_303 : Dc code 303 (.aload 8) 2 305 := ⟨at_303, rfl⟩
theorem d_305 : Dc code 305 (.bipush 16) 2 307 := ⟨at_305, rfl⟩
theorem d_307 : Dc code 307 (.iload_n 3) 1 308 := ⟨at_307, rfl⟩
theorem d_308 : Dc code 308 (.iload_n 1) 1 309 := ⟨at_308, rfl⟩
theorem d_309 : Dc code 309 (.iload_n 2) 1 310 := ⟨at_309, rfl⟩
theorem d_310 : Dc code 310 (.invokestatic 33) 3 313 := ⟨at_310, rfl⟩
theorem d_313 : Bc code 313 (.ifCond .eq) 385 316 := ⟨72, at_313, by decide, by decide, rfl⟩
theorem d_316 : Dc code 316 (.aload 8) 2 318 := ⟨at_316, rfl⟩
theorem d_318 : Dc code 318 (.bipush 17) 2 320 := ⟨at_318, rfl⟩
theorem d_320 : Dc code 320 (.iload_n 3) 1 321 := ⟨at_320, rfl⟩
theorem d_321 : Dc code 321 (.iload_n 1) 1 322 := ⟨at_321, rfl⟩
theorem d_322 : Dc code 322 (.iload_n 2) 1 323 := ⟨at_322, rfl⟩
theorem d_323 : Dc code 323 (.invokestatic 33) 3 326 := ⟨at_323, rfl⟩
theorem d_326 : Bc code 326 (.ifCond .eq) 385 329 := ⟨59, at_326, by decide, by decide, rfl⟩
theorem d_329 : Dc code 329 (.aload 8) 2 331 := ⟨at_329, rfl⟩
theorem d_331 : Dc code 331 (.bipush 18) 2 333 := ⟨at_331, rfl⟩
theorem d_333 : Dc code 333 (.iload_n 3) 1 334 := ⟨at_333, rfl⟩
theorem d_334 : Dc code 334 (.iload_n 1) 1 335 := ⟨at_334, rfl⟩
theorem d_335 : Dc code 335 (.iload_n 2) 1 336 := ⟨at_335, rfl⟩
theorem d_336 : Dc code 336 (.invokestatic 33) 3 339 := ⟨at_336, rfl⟩
theorem d_339 : Bc code 339 (.ifCond .eq) 385 342 := ⟨46, at_339, by decide, by decide, rfl⟩
theorem d_342 : Dc code 342 (.aload 8) 2 344 := ⟨at_342, rfl⟩
theorem d_344 : Dc code 344 (.bipush 19) 2 346 := ⟨at_344, rfl⟩
theorem d_346 : Dc code 346 (.iload_n 3) 1 347 := ⟨at_346, rfl⟩
theorem d_347 : Dc code 347 (.iload_n 1) 1 348 := ⟨at_347, rfl⟩
theorem d_348 : Dc code 348 (.iload_n 2) 1 349 := ⟨at_348, rfl⟩
theorem d_349 : Dc code 349 (.invokestatic 33) 3 352 := ⟨at_349, rfl⟩
theorem d_352 : Bc code 352 (.ifCond .eq) 385 355 := ⟨33, at_352, by decide, by decide, rfl⟩
theorem d_355 : Dc code 355 (.aload 8) 2 357 := ⟨at_355, rfl⟩
theorem d_357 : Dc code 357 (.bipush 20) 2 359 := ⟨at_357, rfl⟩
theorem d_359 : Dc code 359 (.iload_n 3) 1 360 := ⟨at_359, rfl⟩
theorem d_360 : Dc code 360 (.iload_n 1) 1 361 := ⟨at_360, rfl⟩
theorem d_361 : Dc code 361 (.iload_n 2) 1 362 := ⟨at_361, rfl⟩
theorem d_362 : Dc code 362 (.invokestatic 33) 3 365 := ⟨at_362, rfl⟩
theorem d_365 : Bc code 365 (.ifCond .eq) 385 368 := ⟨20, at_365, by decide, by decide, rfl⟩
theorem d_368 : Dc code 368 (.aload 8) 2 370 := ⟨at_368, rfl⟩
theorem d_370 : Dc code 370 (.bipush 21) 2 372 := ⟨at_370, rfl⟩
theorem d_372 : Dc code 372 (.iload_n 3) 1 373 := ⟨at_372, rfl⟩
theorem d_373 : Dc code 373 (.iload_n 1) 1 374 := ⟨at_373, rfl⟩
theorem d_374 : Dc code 374 (.iload_n 2) 1 375 := ⟨at_374, rfl⟩
theorem d_375 : Dc code 375 (.invokestatic 33) 3 378 := ⟨at_375, rfl⟩
theorem d_378 : Bc code 378 (.ifCond .eq) 385 381 := ⟨7, at_378, by decide, by decide, rfl⟩
theorem d_381 : Dc code 381 (.iconst 1) 1 382 := ⟨at_381, rfl⟩
theorem d_382 : Bc code 382 (.goto) 386 385 := ⟨4, at_382, by decide, by decide, rfl⟩
theorem d_386 : Dc code 386 (.ireturn) 1 387 := ⟨at_386, rfl⟩
theorem k29_65_0 : Dc jdk_29_method_65_code 0 (.iload_n 0) 1 1 := ⟨by decide +kernel, rfl⟩
theorem k29_65_1 : Dc jdk_29_method_65_code 1 (.iload_n 1) 1 2 := ⟨by decide +kernel, rfl⟩
theorem k29_65_2 : Bc jdk_29_method_65_code 2 (.if_icmp .lt) 9 5 := ⟨7, by decide +kernel, by decide, by decide, rfl⟩
theorem k29_65_5 : Dc jdk_29_method_65_code 5 (.iload_n 0) 1 6 := ⟨by decide +kernel, rfl⟩
theorem k29_65_6 : Bc jdk_29_method_65_code 6 (.goto) 10 9 := ⟨4, by decide +kernel, by decide, by decide, rfl⟩
theorem k29_65_9 : Dc jdk_29_method_65_code 9 (.iload_n 1) 1 10 := ⟨by decide +kernel, rfl⟩
theorem k29_65_10 : Dc jdk_29_method_65_code 10 (.ireturn) 1 11 := ⟨by decide +kernel, rfl⟩
theorem k29_69_0 : Dc jdk_29_method_69_code 0 (.iload_n 0) 1 1 := ⟨by decide +kernel, rfl⟩
theorem k29_69_1 : Dc jdk_29_method_69_code 1 (.iload_n 1) 1 2 := ⟨by decide +kernel, rfl⟩
theorem k29_69_2 : Bc jdk_29_method_69_code 2 (.if_icmp .gt) 9 5 := ⟨7, by decide +kernel, by decide, by decide, rfl⟩
theorem k29_69_5 : Dc jdk_29_method_69_code 5 (.iload_n 0) 1 6 := ⟨by decide +kernel, rfl⟩
theorem k29_69_6 : Bc jdk_29_method_69_code 6 (.goto) 10 9 := ⟨4, by decide +kernel, by decide, by decide, rfl⟩
theorem k29_69_9 : Dc jdk_29_method_69_code 9 (.iload_n 1) 1 10 := ⟨by decide +kernel, rfl⟩
theorem k29_69_10 : Dc jdk_29_method_69_code 10 (.ireturn) 1 11 := ⟨by decide +kernel, rfl⟩
theorem k41_11_0 : Dc jdk_41_method_11_code 0 (.iload_n 0) 1 1 := ⟨by decide +kernel, rfl⟩
theorem k41_11_1 : Bc jdk_41_method_11_code 1 (.ifCond .lt) 9 4 := ⟨8, by decide +kernel, by decide, by decide, rfl⟩
theorem k41_11_4 : Dc jdk_41_method_11_code 4 (.iload_n 0) 1 5 := ⟨by decide +kernel, rfl⟩
theorem k41_11_5 : Dc jdk_41_method_11_code 5 (.iload_n 1) 1 6 := ⟨by decide +kernel, rfl⟩
theorem k41_11_6 : Bc jdk_41_method_11_code 6 (.if_icmp .lt) 16 9 := ⟨10, by decide +kernel, by decide, by decide, rfl⟩
theorem k41_11_16 : Dc jdk_41_method_11_code 16 (.iload_n 0) 1 17 := ⟨by decide +kernel, rfl⟩
theorem k41_11_17 : Dc jdk_41_method_11_code 17 (.ireturn) 1 18 := ⟨by decide +kernel, rfl⟩
theorem k42_139_0 : Dc jdk_42_method_139_code 0 (.getstatic 38) 3 3 := ⟨by decide +kernel, rfl⟩
theorem k42_139_3 : Bc jdk_42_method_139_code 3 (.ifCond .eq) 26 6 := ⟨23, by decide +kernel, by decide, by decide, rfl⟩
theorem k42_139_6 : Dc jdk_42_method_139_code 6 (.iload_n 0) 1 7 := ⟨by decide +kernel, rfl⟩
theorem k42_139_7 : Dc jdk_42_method_139_code 7 (.invokestatic 1015) 3 10 := ⟨by decide +kernel, rfl⟩
theorem k42_139_10 : Bc jdk_42_method_139_code 10 (.ifCond .eq) 26 13 := ⟨16, by decide +kernel, by decide, by decide, rfl⟩
theorem k42_139_13 : Dc jdk_42_method_139_code 13 (.new 10) 3 16 := ⟨by decide +kernel, rfl⟩
theorem k42_139_16 : Dc jdk_42_method_139_code 16 (.dup) 1 17 := ⟨by decide +kernel, rfl⟩
theorem k42_139_17 : Dc jdk_42_method_139_code 17 (.iload_n 0) 1 18 := ⟨by decide +kernel, rfl⟩
theorem k42_139_18 : Dc jdk_42_method_139_code 18 (.invokestatic 1018) 3 21 := ⟨by decide +kernel, rfl⟩
theorem k42_139_21 : Dc jdk_42_method_139_code 21 (.iconst 0) 1 22 := ⟨by decide +kernel, rfl⟩
theorem k42_139_22 : Dc jdk_42_method_139_code 22 (.invokespecial 209) 3 25 := ⟨by decide +kernel, rfl⟩
theorem k42_139_25 : Dc jdk_42_method_139_code 25 (.areturn) 1 26 := ⟨by decide +kernel, rfl⟩
theorem k42_147_0 : Dc jdk_42_method_147_code 0 (.aload_n 0) 1 1 := ⟨by decide +kernel, rfl⟩
theorem k42_147_1 : Dc jdk_42_method_147_code 1 (.invokevirtual 335) 3 4 := ⟨by decide +kernel, rfl⟩
theorem k42_147_4 : Dc jdk_42_method_147_code 4 (.iload_n 3) 1 5 := ⟨by decide +kernel, rfl⟩
theorem k42_147_5 : Bc jdk_42_method_147_code 5 (.if_icmp .ne) 28 8 := ⟨23, by decide +kernel, by decide, by decide, rfl⟩
theorem k42_147_8 : Dc jdk_42_method_147_code 8 (.aload_n 0) 1 9 := ⟨by decide +kernel, rfl⟩
theorem k42_147_9 : Dc jdk_42_method_147_code 9 (.getfield 9) 3 12 := ⟨by decide +kernel, rfl⟩
theorem k42_147_12 : Dc jdk_42_method_147_code 12 (.iconst 0) 1 13 := ⟨by decide +kernel, rfl⟩
theorem k42_147_13 : Dc jdk_42_method_147_code 13 (.aload_n 1) 1 14 := ⟨by decide +kernel, rfl⟩
theorem k42_147_14 : Dc jdk_42_method_147_code 14 (.iload_n 2) 1 15 := ⟨by decide +kernel, rfl⟩
theorem k42_147_15 : Dc jdk_42_method_147_code 15 (.iload_n 3) 1 16 := ⟨by decide +kernel, rfl⟩
theorem k42_147_16 : Dc jdk_42_method_147_code 16 (.ishl) 1 17 := ⟨by decide +kernel, rfl⟩
theorem k42_147_17 : Dc jdk_42_method_147_code 17 (.aload_n 0) 1 18 := ⟨by decide +kernel, rfl⟩
theorem k42_147_18 : Dc jdk_42_method_147_code 18 (.getfield 9) 3 21 := ⟨by decide +kernel, rfl⟩
theorem k42_147_21 : Dc jdk_42_method_147_code 21 (.arraylength) 1 22 := ⟨by decide +kernel, rfl⟩
theorem k42_147_22 : Dc jdk_42_method_147_code 22 (.invokestatic 212) 3 25 := ⟨by decide +kernel, rfl⟩
theorem k42_147_25 : Bc jdk_42_method_147_code 25 (.goto) 43 28 := ⟨18, by decide +kernel, by decide, by decide, rfl⟩
theorem k42_147_43 : Dc jdk_42_method_147_code 43 (.return_) 1 44 := ⟨by decide +kernel, rfl⟩
theorem k42_149_0 : Dc jdk_42_method_149_code 0 (.aload_n 0) 1 1 := ⟨by decide +kernel, rfl⟩
theorem k42_149_1 : Dc jdk_42_method_149_code 1 (.invokespecial 1) 3 4 := ⟨by decide +kernel, rfl⟩
theorem k42_149_4 : Dc jdk_42_method_149_code 4 (.iload_n 3) 1 5 := ⟨by decide +kernel, rfl⟩
theorem k42_149_5 : Bc jdk_42_method_149_code 5 (.ifCond .ne) 27 8 := ⟨22, by decide +kernel, by decide, by decide, rfl⟩
theorem k42_149_8 : Dc jdk_42_method_149_code 8 (.aload_n 0) 1 9 := ⟨by decide +kernel, rfl⟩
theorem k42_149_9 : Dc jdk_42_method_149_code 9 (.ldc 7) 2 11 := ⟨by decide +kernel, rfl⟩
theorem k42_149_11 : Dc jdk_42_method_149_code 11 (.getfield 9) 3 14 := ⟨by decide +kernel, rfl⟩
theorem k42_149_14 : Dc jdk_42_method_149_code 14 (.putfield 9) 3 17 := ⟨by decide +kernel, rfl⟩
theorem k42_149_17 : Dc jdk_42_method_149_code 17 (.aload_n 0) 1 18 := ⟨by decide +kernel, rfl⟩
theorem k42_149_18 : Dc jdk_42_method_149_code 18 (.ldc 7) 2 20 := ⟨by decide +kernel, rfl⟩
theorem k42_149_20 : Dc jdk_42_method_149_code 20 (.getfield 15) 3 23 := ⟨by decide +kernel, rfl⟩
theorem k42_149_23 : Dc jdk_42_method_149_code 23 (.putfield 15) 3 26 := ⟨by decide +kernel, rfl⟩
theorem k42_149_26 : Dc jdk_42_method_149_code 26 (.return_) 1 27 := ⟨by decide +kernel, rfl⟩
theorem k42_149_27 : Dc jdk_42_method_149_code 27 (.getstatic 38) 3 30 := ⟨by decide +kernel, rfl⟩
theorem k42_149_30 : Bc jdk_42_method_149_code 30 (.ifCond .eq) 58 33 := ⟨28, by decide +kernel, by decide, by decide, rfl⟩
theorem k42_149_33 : Dc jdk_42_method_149_code 33 (.aload_n 1) 1 34 := ⟨by decide +kernel, rfl⟩
theorem k42_149_34 : Dc jdk_42_method_149_code 34 (.iload_n 2) 1 35 := ⟨by decide +kernel, rfl⟩
theorem k42_149_35 : Dc jdk_42_method_149_code 35 (.iload_n 3) 1 36 := ⟨by decide +kernel, rfl⟩
theorem k42_149_36 : Dc jdk_42_method_149_code 36 (.invokestatic 177) 3 39 := ⟨by decide +kernel, rfl⟩
theorem k42_149_39 : Dc jdk_42_method_149_code 39 (.astore 5) 2 41 := ⟨by decide +kernel, rfl⟩
theorem k42_149_41 : Dc jdk_42_method_149_code 41 (.aload_n 0) 1 42 := ⟨by decide +kernel, rfl⟩
theorem k42_149_42 : Dc jdk_42_method_149_code 42 (.aload 5) 2 44 := ⟨by decide +kernel, rfl⟩
theorem k42_149_44 : Dc jdk_42_method_149_code 44 (.iload_n 3) 1 45 := ⟨by decide +kernel, rfl⟩
theorem k42_149_45 : Dc jdk_42_method_149_code 45 (.invokestatic 47) 3 48 := ⟨by decide +kernel, rfl⟩
theorem k42_149_48 : Dc jdk_42_method_149_code 48 (.putfield 15) 3 51 := ⟨by decide +kernel, rfl⟩
theorem k42_149_51 : Dc jdk_42_method_149_code 51 (.aload_n 0) 1 52 := ⟨by decide +kernel, rfl⟩
theorem k42_149_52 : Dc jdk_42_method_149_code 52 (.aload 5) 2 54 := ⟨by decide +kernel, rfl⟩
theorem k42_149_54 : Dc jdk_42_method_149_code 54 (.putfield 9) 3 57 := ⟨by decide +kernel, rfl⟩
theorem k42_149_57 : Dc jdk_42_method_149_code 57 (.return_) 1 58 := ⟨by decide +kernel, rfl⟩
theorem k42_150_0 : Dc jdk_42_method_150_code 0 (.aload_n 0) 1 1 := ⟨by decide +kernel, rfl⟩
theorem k42_150_1 : Dc jdk_42_method_150_code 1 (.invokespecial 1) 3 4 := ⟨by decide +kernel, rfl⟩
theorem k42_150_4 : Dc jdk_42_method_150_code 4 (.aload_n 1) 1 5 := ⟨by decide +kernel, rfl⟩
theorem k42_150_5 : Dc jdk_42_method_150_code 5 (.invokevirtual 552) 3 8 := ⟨by decide +kernel, rfl⟩
theorem k42_150_8 : Dc jdk_42_method_150_code 8 (.astore_n 3) 1 9 := ⟨by decide +kernel, rfl⟩
theorem k42_150_9 : Dc jdk_42_method_150_code 9 (.aload_n 1) 1 10 := ⟨by decide +kernel, rfl⟩
theorem k42_150_10 : Dc jdk_42_method_150_code 10 (.invokevirtual 549) 3 13 := ⟨by decide +kernel, rfl⟩
theorem k42_150_13 : Dc jdk_42_method_150_code 13 (.istore 4) 2 15 := ⟨by decide +kernel, rfl⟩
theorem k42_150_15 : Dc jdk_42_method_150_code 15 (.aload_n 1) 1 16 := ⟨by decide +kernel, rfl⟩
theorem k42_150_16 : Dc jdk_42_method_150_code 16 (.invokevirtual 1047) 3 19 := ⟨by decide +kernel, rfl⟩
theorem k42_150_19 : Bc jdk_42_method_150_code 19 (.ifCond .eq) 41 22 := ⟨22, by decide +kernel, by decide, by decide, rfl⟩
theorem k42_150_22 : Dc jdk_42_method_150_code 22 (.aload_n 0) 1 23 := ⟨by decide +kernel, rfl⟩
theorem k42_150_23 : Dc jdk_42_method_150_code 23 (.iconst 0) 1 24 := ⟨by decide +kernel, rfl⟩
theorem k42_150_24 : Dc jdk_42_method_150_code 24 (.putfield 15) 3 27 := ⟨by decide +kernel, rfl⟩
theorem k42_150_27 : Dc jdk_42_method_150_code 27 (.aload_n 0) 1 28 := ⟨by decide +kernel, rfl⟩
theorem k42_150_28 : Dc jdk_42_method_150_code 28 (.aload_n 3) 1 29 := ⟨by decide +kernel, rfl⟩
theorem k42_150_29 : Dc jdk_42_method_150_code 29 (.iconst 0) 1 30 := ⟨by decide +kernel, rfl⟩
theorem k42_150_30 : Dc jdk_42_method_150_code 30 (.iload 4) 2 32 := ⟨by decide +kernel, rfl⟩
theorem k42_150_32 : Dc jdk_42_method_150_code 32 (.invokestatic 54) 3 35 := ⟨by decide +kernel, rfl⟩
theorem k42_150_35 : Dc jdk_42_method_150_code 35 (.putfield 9) 3 38 := ⟨by decide +kernel, rfl⟩
theorem k42_150_38 : Bc jdk_42_method_150_code 38 (.goto) 97 41 := ⟨59, by decide +kernel, by decide, by decide, rfl⟩
theorem k42_150_97 : Dc jdk_42_method_150_code 97 (.return_) 1 98 := ⟨by decide +kernel, rfl⟩
theorem k42_151_0 : Dc jdk_42_method_151_code 0 (.aload_n 0) 1 1 := ⟨by decide +kernel, rfl⟩
theorem k42_151_1 : Dc jdk_42_method_151_code 1 (.invokespecial 1) 3 4 := ⟨by decide +kernel, rfl⟩
theorem k42_151_4 : Dc jdk_42_method_151_code 4 (.aload_n 0) 1 5 := ⟨by decide +kernel, rfl⟩
theorem k42_151_5 : Dc jdk_42_method_151_code 5 (.aload_n 1) 1 6 := ⟨by decide +kernel, rfl⟩
theorem k42_151_6 : Dc jdk_42_method_151_code 6 (.putfield 9) 3 9 := ⟨by decide +kernel, rfl⟩
theorem k42_151_9 : Dc jdk_42_method_151_code 9 (.aload_n 0) 1 10 := ⟨by decide +kernel, rfl⟩
theorem k42_151_10 : Dc jdk_42_method_151_code 10 (.iload_n 2) 1 11 := ⟨by decide +kernel, rfl⟩
theorem k42_151_11 : Dc jdk_42_method_151_code 11 (.putfield 15) 3 14 := ⟨by decide +kernel, rfl⟩
theorem k42_151_14 : Dc jdk_42_method_151_code 14 (.return_) 1 15 := ⟨by decide +kernel, rfl⟩
theorem k42_152_0 : Dc jdk_42_method_152_code 0 (.getstatic 38) 3 3 := ⟨by decide +kernel, rfl⟩
theorem k42_152_3 : Bc jdk_42_method_152_code 3 (.ifCond .eq) 13 6 := ⟨10, by decide +kernel, by decide, by decide, rfl⟩
theorem k42_152_6 : Dc jdk_42_method_152_code 6 (.aload_n 0) 1 7 := ⟨by decide +kernel, rfl⟩
theorem k42_152_7 : Dc jdk_42_method_152_code 7 (.getfield 15) 3 10 := ⟨by decide +kernel, rfl⟩
theorem k42_152_10 : Bc jdk_42_method_152_code 10 (.goto) 14 13 := ⟨4, by decide +kernel, by decide, by decide, rfl⟩
theorem k42_152_14 : Dc jdk_42_method_152_code 14 (.ireturn) 1 15 := ⟨by decide +kernel, rfl⟩
theorem k42_154_0 : Dc jdk_42_method_154_code 0 (.getstatic 38) 3 3 := ⟨by decide +kernel, rfl⟩
theorem k42_154_3 : Bc jdk_42_method_154_code 3 (.ifCond .eq) 17 6 := ⟨14, by decide +kernel, by decide, by decide, rfl⟩
theorem k42_154_6 : Dc jdk_42_method_154_code 6 (.aload_n 0) 1 7 := ⟨by decide +kernel, rfl⟩
theorem k42_154_7 : Dc jdk_42_method_154_code 7 (.getfield 15) 3 10 := ⟨by decide +kernel, rfl⟩
theorem k42_154_10 : Bc jdk_42_method_154_code 10 (.ifCond .ne) 17 13 := ⟨7, by decide +kernel, by decide, by decide, rfl⟩
theorem k42_154_13 : Dc jdk_42_method_154_code 13 (.iconst 1) 1 14 := ⟨by decide +kernel, rfl⟩
theorem k42_154_14 : Bc jdk_42_method_154_code 14 (.goto) 18 17 := ⟨4, by decide +kernel, by decide, by decide, rfl⟩
theorem k42_154_18 : Dc jdk_42_method_154_code 18 (.ireturn) 1 19 := ⟨by decide +kernel, rfl⟩
theorem k42_155_0 : Dc jdk_42_method_155_code 0 (.iload_n 0) 1 1 := ⟨by decide +kernel, rfl⟩
theorem k42_155_1 : Dc jdk_42_method_155_code 1 (.iload_n 1) 1 2 := ⟨by decide +kernel, rfl⟩
theorem k42_155_2 : Dc jdk_42_method_155_code 2 (.getstatic 1053) 3 5 := ⟨by decide +kernel, rfl⟩
theorem k42_155_5 : Dc jdk_42_method_155_code 5 (.invokestatic 1059) 3 8 := ⟨by decide +kernel, rfl⟩
theorem k42_155_8 : Dc jdk_42_method_155_code 8 (.pop) 1 9 := ⟨by decide +kernel, rfl⟩
theorem k42_155_9 : Dc jdk_42_method_155_code 9 (.return_) 1 10 := ⟨by decide +kernel, rfl⟩
theorem k42_3_0 : Dc jdk_42_method_3_code 0 (.aload_n 0) 1 1 := ⟨by decide +kernel, rfl⟩
theorem k42_3_1 : Dc jdk_42_method_3_code 1 (.aload_n 1) 1 2 := ⟨by decide +kernel, rfl⟩
theorem k42_3_2 : Dc jdk_42_method_3_code 2 (.iconst 0) 1 3 := ⟨by decide +kernel, rfl⟩
theorem k42_3_3 : Dc jdk_42_method_3_code 3 (.aload_n 1) 1 4 := ⟨by decide +kernel, rfl⟩
theorem k42_3_4 : Dc jdk_42_method_3_code 4 (.arraylength) 1 5 := ⟨by decide +kernel, rfl⟩
theorem k42_3_5 : Dc jdk_42_method_3_code 5 (.aconst_null) 1 6 := ⟨by decide +kernel, rfl⟩
theorem k42_3_6 : Dc jdk_42_method_3_code 6 (.invokespecial 27) 3 9 := ⟨by decide +kernel, rfl⟩
theorem k42_3_9 : Dc jdk_42_method_3_code 9 (.return_) 1 10 := ⟨by decide +kernel, rfl⟩
theorem k42_53_0 : Dc jdk_42_method_53_code 0 (.aload_n 0) 1 1 := ⟨by decide +kernel, rfl⟩
theorem k42_53_1 : Dc jdk_42_method_53_code 1 (.aload_n 1) 1 2 := ⟨by decide +kernel, rfl⟩
theorem k42_53_2 : Dc jdk_42_method_53_code 2 (.aconst_null) 1 3 := ⟨by decide +kernel, rfl⟩
theorem k42_53_3 : Dc jdk_42_method_53_code 3 (.invokespecial 489) 3 6 := ⟨by decide +kernel, rfl⟩
theorem k42_53_6 : Dc jdk_42_method_53_code 6 (.return_) 1 7 := ⟨by decide +kernel, rfl⟩
theorem k42_54_0 : Dc jdk_42_method_54_code 0 (.aload_n 0) 1 1 := ⟨by decide +kernel, rfl⟩
theorem k42_54_1 : Dc jdk_42_method_54_code 1 (.getfield 9) 3 4 := ⟨by decide +kernel, rfl⟩
theorem k42_54_4 : Dc jdk_42_method_54_code 4 (.arraylength) 1 5 := ⟨by decide +kernel, rfl⟩
theorem k42_54_5 : Dc jdk_42_method_54_code 5 (.aload_n 0) 1 6 := ⟨by decide +kernel, rfl⟩
theorem k42_54_6 : Dc jdk_42_method_54_code 6 (.invokevirtual 335) 3 9 := ⟨by decide +kernel, rfl⟩
theorem k42_54_9 : Dc jdk_42_method_54_code 9 (.ishr) 1 10 := ⟨by decide +kernel, rfl⟩
theorem k42_54_10 : Dc jdk_42_method_54_code 10 (.ireturn) 1 11 := ⟨by decide +kernel, rfl⟩
theorem k42_56_0 : Dc jdk_42_method_56_code 0 (.aload_n 0) 1 1 := ⟨by decide +kernel, rfl⟩
theorem k42_56_1 : Dc jdk_42_method_56_code 1 (.invokevirtual 492) 3 4 := ⟨by decide +kernel, rfl⟩
theorem k42_56_4 : Bc jdk_42_method_56_code 4 (.ifCond .eq) 16 7 := ⟨12, by decide +kernel, by decide, by decide, rfl⟩
theorem k42_56_7 : Dc jdk_42_method_56_code 7 (.aload_n 0) 1 8 := ⟨by decide +kernel, rfl⟩
theorem k42_56_8 : Dc jdk_42_method_56_code 8 (.getfield 9) 3 11 := ⟨by decide +kernel, rfl⟩
theorem k42_56_11 : Dc jdk_42_method_56_code 11 (.iload_n 1) 1 12 := ⟨by decide +kernel, rfl⟩
theorem k42_56_12 : Dc jdk_42_method_56_code 12 (.invokestatic 495) 3 15 := ⟨by decide +kernel, rfl⟩
theorem k42_56_15 : Dc jdk_42_method_56_code 15 (.ireturn) 1 16 := ⟨by decide +kernel, rfl⟩
theorem k43_2_0 : Dc jdk_43_method_2_code 0 (.iload_n 1) 1 1 := ⟨by decide +kernel, rfl⟩
theorem k43_2_1 : Dc jdk_43_method_2_code 1 (.aload_n 0) 1 2 := ⟨by decide +kernel, rfl⟩
theorem k43_2_2 : Dc jdk_43_method_2_code 2 (.arraylength) 1 3 := ⟨by decide +kernel, rfl⟩
theorem k43_2_3 : Dc jdk_43_method_2_code 3 (.invokestatic 9) 3 6 := ⟨by decide +kernel, rfl⟩
theorem k43_2_6 : Dc jdk_43_method_2_code 6 (.aload_n 0) 1 7 := ⟨by decide +kernel, rfl⟩
theorem k43_2_7 : Dc jdk_43_method_2_code 7 (.iload_n 1) 1 8 := ⟨by decide +kernel, rfl⟩
theorem k43_2_8 : Dc jdk_43_method_2_code 8 (.baload) 1 9 := ⟨by decide +kernel, rfl⟩
theorem k43_2_9 : Dc jdk_43_method_2_code 9 (.sipush 255) 3 12 := ⟨by decide +kernel, rfl⟩
theorem k43_2_12 : Dc jdk_43_method_2_code 12 (.iand) 1 13 := ⟨by decide +kernel, rfl⟩
theorem k43_2_13 : Dc jdk_43_method_2_code 13 (.i2c) 1 14 := ⟨by decide +kernel, rfl⟩
theorem k43_2_14 : Dc jdk_43_method_2_code 14 (.ireturn) 1 15 := ⟨by decide +kernel, rfl⟩
theorem k43_3_0 : Dc jdk_43_method_3_code 0 (.iload_n 0) 1 1 := ⟨by decide +kernel, rfl⟩
theorem k43_3_1 : Dc jdk_43_method_3_code 1 (.sipush 255) 3 4 := ⟨by decide +kernel, rfl⟩
theorem k43_3_4 : Bc jdk_43_method_3_code 4 (.if_icmp .gt) 11 7 := ⟨7, by decide +kernel, by decide, by decide, rfl⟩
theorem k43_3_7 : Dc jdk_43_method_3_code 7 (.iconst 1) 1 8 := ⟨by decide +kernel, rfl⟩
theorem k43_3_8 : Bc jdk_43_method_3_code 8 (.goto) 12 11 := ⟨4, by decide +kernel, by decide, by decide, rfl⟩
theorem k43_3_12 : Dc jdk_43_method_3_code 12 (.ireturn) 1 13 := ⟨by decide +kernel, rfl⟩
theorem k43_46_0 : Dc jdk_43_method_46_code 0 (.iconst 1) 1 1 := ⟨by decide +kernel, rfl⟩
theorem k43_46_1 : Dc jdk_43_method_46_code 1 (.newarray .byte) 2 3 := ⟨by decide +kernel, rfl⟩
theorem k43_46_3 : Dc jdk_43_method_46_code 3 (.dup) 1 4 := ⟨by decide +kernel, rfl⟩
theorem k43_46_4 : Dc jdk_43_method_46_code 4 (.iconst 0) 1 5 := ⟨by decide +kernel, rfl⟩
theorem k43_46_5 : Dc jdk_43_method_46_code 5 (.iload_n 0) 1 6 := ⟨by decide +kernel, rfl⟩
theorem k43_46_6 : Dc jdk_43_method_46_code 6 (.i2b) 1 7 := ⟨by decide +kernel, rfl⟩
theorem k43_46_7 : Dc jdk_43_method_46_code 7 (.bastore) 1 8 := ⟨by decide +kernel, rfl⟩
theorem k43_46_8 : Dc jdk_43_method_46_code 8 (.areturn) 1 9 := ⟨by decide +kernel, rfl⟩
theorem k48_27_0 : Dc jdk_48_method_27_code 0 (.iload_n 0) 1 1 := ⟨by decide +kernel, rfl⟩
theorem k48_27_1 : Dc jdk_48_method_27_code 1 (.iload_n 1) 1 2 := ⟨by decide +kernel, rfl⟩
theorem k48_27_2 : Dc jdk_48_method_27_code 2 (.iload_n 2) 1 3 := ⟨by decide +kernel, rfl⟩
theorem k48_27_3 : Dc jdk_48_method_27_code 3 (.invokestatic 194) 3 6 := ⟨by decide +kernel, rfl⟩
theorem k48_27_6 : Dc jdk_48_method_27_code 6 (.iadd) 1 7 := ⟨by decide +kernel, rfl⟩
theorem k48_27_7 : Dc jdk_48_method_27_code 7 (.istore_n 3) 1 8 := ⟨by decide +kernel, rfl⟩
theorem k48_27_8 : Dc jdk_48_method_27_code 8 (.iconst 0) 1 9 := ⟨by decide +kernel, rfl⟩
theorem k48_27_9 : Dc jdk_48_method_27_code 9 (.iload_n 3) 1 10 := ⟨by decide +kernel, rfl⟩
theorem k48_27_10 : Bc jdk_48_method_27_code 10 (.if_icmp .ge) 21 13 := ⟨11, by decide +kernel, by decide, by decide, rfl⟩
theorem k48_27_13 : Dc jdk_48_method_27_code 13 (.iload_n 3) 1 14 := ⟨by decide +kernel, rfl⟩
theorem k48_27_14 : Dc jdk_48_method_27_code 14 (.ldc 200) 2 16 := ⟨by decide +kernel, rfl⟩
theorem k48_27_16 : Bc jdk_48_method_27_code 16 (.if_icmp .gt) 21 19 := ⟨5, by decide +kernel, by decide, by decide, rfl⟩
theorem k48_27_19 : Dc jdk_48_method_27_code 19 (.iload_n 3) 1 20 := ⟨by decide +kernel, rfl⟩
theorem k48_27_20 : Dc jdk_48_method_27_code 20 (.ireturn) 1 21 := ⟨by decide +kernel, rfl⟩
theorem k52_15_0 : Dc jdk_52_method_15_code 0 (.iload_n 1) 1 1 := ⟨by decide +kernel, rfl⟩
theorem k52_15_1 : Dc jdk_52_method_15_code 1 (.aload_n 0) 1 2 := ⟨by decide +kernel, rfl⟩
theorem k52_15_2 : Dc jdk_52_method_15_code 2 (.arraylength) 1 3 := ⟨by decide +kernel, rfl⟩
theorem k52_15_3 : Dc jdk_52_method_15_code 3 (.isub) 1 4 := ⟨by decide +kernel, rfl⟩
theorem k52_15_4 : Dc jdk_52_method_15_code 4 (.bipush 31) 2 6 := ⟨by decide +kernel, rfl⟩
theorem k52_15_6 : Dc jdk_52_method_15_code 6 (.iushr) 1 7 := ⟨by decide +kernel, rfl⟩
theorem k52_15_7 : Dc jdk_52_method_15_code 7 (.i2b) 1 8 := ⟨by decide +kernel, rfl⟩
theorem k52_15_8 : Dc jdk_52_method_15_code 8 (.ireturn) 1 9 := ⟨by decide +kernel, rfl⟩
theorem k52_16_0 : Dc jdk_52_method_16_code 0 (.iload_n 2) 1 1 := ⟨by decide +kernel, rfl⟩
theorem k52_16_1 : Dc jdk_52_method_16_code 1 (.newarray .byte) 2 3 := ⟨by decide +kernel, rfl⟩
theorem k52_16_3 : Dc jdk_52_method_16_code 3 (.astore_n 3) 1 4 := ⟨by decide +kernel, rfl⟩
theorem k52_16_4 : Dc jdk_52_method_16_code 4 (.aload_n 0) 1 5 := ⟨by decide +kernel, rfl⟩
theorem k52_16_5 : Dc jdk_52_method_16_code 5 (.iload_n 1) 1 6 := ⟨by decide +kernel, rfl⟩
theorem k52_16_6 : Dc jdk_52_method_16_code 6 (.aload_n 3) 1 7 := ⟨by decide +kernel, rfl⟩
theorem k52_16_7 : Dc jdk_52_method_16_code 7 (.iconst 0) 1 8 := ⟨by decide +kernel, rfl⟩
theorem k52_16_8 : Dc jdk_52_method_16_code 8 (.iload_n 2) 1 9 := ⟨by decide +kernel, rfl⟩
theorem k52_16_9 : Dc jdk_52_method_16_code 9 (.invokestatic 115) 3 12 := ⟨by decide +kernel, rfl⟩
theorem k52_16_12 : Dc jdk_52_method_16_code 12 (.istore 4) 2 14 := ⟨by decide +kernel, rfl⟩
theorem k52_16_14 : Dc jdk_52_method_16_code 14 (.iload 4) 2 16 := ⟨by decide +kernel, rfl⟩
theorem k52_16_16 : Dc jdk_52_method_16_code 16 (.iload_n 2) 1 17 := ⟨by decide +kernel, rfl⟩
theorem k52_16_17 : Bc jdk_52_method_16_code 17 (.if_icmp .eq) 57 20 := ⟨40, by decide +kernel, by decide, by decide, rfl⟩
theorem k52_16_57 : Dc jdk_52_method_16_code 57 (.aload_n 3) 1 58 := ⟨by decide +kernel, rfl⟩
theorem k52_16_58 : Dc jdk_52_method_16_code 58 (.areturn) 1 59 := ⟨by decide +kernel, rfl⟩
theorem k52_21_0 : Dc jdk_52_method_21_code 0 (.iconst 0) 1 1 := ⟨by decide +kernel, rfl⟩
theorem k52_21_1 : Dc jdk_52_method_21_code 1 (.istore 5) 2 3 := ⟨by decide +kernel, rfl⟩
theorem k52_21_3 : Dc jdk_52_method_21_code 3 (.iload 5) 2 5 := ⟨by decide +kernel, rfl⟩
theorem k52_21_5 : Dc jdk_52_method_21_code 5 (.iload 4) 2 7 := ⟨by decide +kernel, rfl⟩
theorem k52_21_7 : Bc jdk_52_method_21_code 7 (.if_icmp .ge) 44 10 := ⟨37, by decide +kernel, by decide, by decide, rfl⟩
theorem k52_21_10 : Dc jdk_52_method_21_code 10 (.aload_n 0) 1 11 := ⟨by decide +kernel, rfl⟩
theorem k52_21_11 : Dc jdk_52_method_21_code 11 (.iload_n 1) 1 12 := ⟨by decide +kernel, rfl⟩
theorem k52_21_12 : Dc jdk_52_method_21_code 12 (.caload) 1 13 := ⟨by decide +kernel, rfl⟩
theorem k52_21_13 : Dc jdk_52_method_21_code 13 (.istore 6) 2 15 := ⟨by decide +kernel, rfl⟩
theorem k52_21_15 : Dc jdk_52_method_21_code 15 (.iload 6) 2 17 := ⟨by decide +kernel, rfl⟩
theorem k52_21_17 : Dc jdk_52_method_21_code 17 (.sipush 255) 3 20 := ⟨by decide +kernel, rfl⟩
theorem k52_21_20 : Bc jdk_52_method_21_code 20 (.if_icmp .le) 26 23 := ⟨6, by decide +kernel, by decide, by decide, rfl⟩
theorem k52_21_26 : Dc jdk_52_method_21_code 26 (.aload_n 2) 1 27 := ⟨by decide +kernel, rfl⟩
theorem k52_21_27 : Dc jdk_52_method_21_code 27 (.iload_n 3) 1 28 := ⟨by decide +kernel, rfl⟩
theorem k52_21_28 : Dc jdk_52_method_21_code 28 (.iload 6) 2 30 := ⟨by decide +kernel, rfl⟩
theorem k52_21_30 : Dc jdk_52_method_21_code 30 (.i2b) 1 31 := ⟨by decide +kernel, rfl⟩
theorem k52_21_31 : Dc jdk_52_method_21_code 31 (.bastore) 1 32 := ⟨by decide +kernel, rfl⟩
theorem k52_21_32 : Dc jdk_52_method_21_code 32 (.iinc 1 1) 3 35 := ⟨by decide +kernel, rfl⟩
theorem k52_21_35 : Dc jdk_52_method_21_code 35 (.iinc 3 1) 3 38 := ⟨by decide +kernel, rfl⟩
theorem k52_21_38 : Dc jdk_52_method_21_code 38 (.iinc 5 1) 3 41 := ⟨by decide +kernel, rfl⟩
theorem k52_21_41 : Bc jdk_52_method_21_code 41 (.goto) 3 44 := ⟨(-38), by decide +kernel, by decide, by decide, rfl⟩
theorem k52_21_44 : Dc jdk_52_method_21_code 44 (.iload 4) 2 46 := ⟨by decide +kernel, rfl⟩
theorem k52_21_46 : Dc jdk_52_method_21_code 46 (.ireturn) 1 47 := ⟨by decide +kernel, rfl⟩
theorem k58_2_0 : Dc jdk_58_method_2_code 0 (.aload_n 0) 1 1 := ⟨by decide +kernel, rfl⟩
theorem k58_2_1 : Dc jdk_58_method_2_code 1 (.aload_n 1) 1 2 := ⟨by decide +kernel, rfl⟩
theorem k58_2_2 : Dc jdk_58_method_2_code 2 (.invokespecial 7) 3 5 := ⟨by decide +kernel, rfl⟩
theorem k58_2_5 : Dc jdk_58_method_2_code 5 (.return_) 1 6 := ⟨by decide +kernel, rfl⟩
theorem k59_2_0 : Dc jdk_59_method_2_code 0 (.aload_n 0) 1 1 := ⟨by decide +kernel, rfl⟩
theorem k59_2_1 : Dc jdk_59_method_2_code 1 (.aload_n 1) 1 2 := ⟨by decide +kernel, rfl⟩
theorem k59_2_2 : Dc jdk_59_method_2_code 2 (.invokespecial 7) 3 5 := ⟨by decide +kernel, rfl⟩
theorem k59_2_5 : Dc jdk_59_method_2_code 5 (.return_) 1 6 := ⟨by decide +kernel, rfl⟩
theorem k65_121_0 : Dc jdk_65_method_121_code 0 (.iload_n 1) 1 1 := ⟨by decide +kernel, rfl⟩
theorem k65_121_1 : Dc jdk_65_method_121_code 1 (.aload_n 0) 1 2 := ⟨by decide +kernel, rfl⟩
theorem k65_121_2 : Dc jdk_65_method_121_code 2 (.arraylength) 1 3 := ⟨by decide +kernel, rfl⟩
theorem k65_121_3 : Bc jdk_65_method_121_code 3 (.if_icmp .ne) 14 6 := ⟨11, by decide +kernel, by decide, by decide, rfl⟩
theorem k65_121_14 : Dc jdk_65_method_121_code 14 (.iload_n 1) 1 15 := ⟨by decide +kernel, rfl⟩
theorem k65_121_15 : Dc jdk_65_method_121_code 15 (.newarray .byte) 2 17 := ⟨by decide +kernel, rfl⟩
theorem k65_121_17 : Dc jdk_65_method_121_code 17 (.astore_n 2) 1 18 := ⟨by decide +kernel, rfl⟩
theorem k65_121_18 : Dc jdk_65_method_121_code 18 (.aload_n 0) 1 19 := ⟨by decide +kernel, rfl⟩
theorem k65_121_19 : Dc jdk_65_method_121_code 19 (.iconst 0) 1 20 := ⟨by decide +kernel, rfl⟩
theorem k65_121_20 : Dc jdk_65_method_121_code 20 (.aload_n 2) 1 21 := ⟨by decide +kernel, rfl⟩
theorem k65_121_21 : Dc jdk_65_method_121_code 21 (.iconst 0) 1 22 := ⟨by decide +kernel, rfl⟩
theorem k65_121_22 : Dc jdk_65_method_121_code 22 (.aload_n 0) 1 23 := ⟨by decide +kernel, rfl⟩
theorem k65_121_23 : Dc jdk_65_method_121_code 23 (.arraylength) 1 24 := ⟨by decide +kernel, rfl⟩
theorem k65_121_24 : Dc jdk_65_method_121_code 24 (.iload_n 1) 1 25 := ⟨by decide +kernel, rfl⟩
theorem k65_121_25 : Dc jdk_65_method_121_code 25 (.invokestatic 304) 3 28 := ⟨by decide +kernel, rfl⟩
theorem k65_121_28 : Dc jdk_65_method_121_code 28 (.invokestatic 150) 3 31 := ⟨by decide +kernel, rfl⟩
theorem k65_121_31 : Dc jdk_65_method_121_code 31 (.aload_n 2) 1 32 := ⟨by decide +kernel, rfl⟩
theorem k65_121_32 : Dc jdk_65_method_121_code 32 (.areturn) 1 33 := ⟨by decide +kernel, rfl⟩
theorem k65_131_0 : Dc jdk_65_method_131_code 0 (.iload_n 1) 1 1 := ⟨by decide +kernel, rfl⟩
theorem k65_131_1 : Dc jdk_65_method_131_code 1 (.iload_n 0) 1 2 := ⟨by decide +kernel, rfl⟩
theorem k65_131_2 : Bc jdk_65_method_131_code 2 (.if_icmp .ge) 37 5 := ⟨35, by decide +kernel, by decide, by decide, rfl⟩
theorem k65_131_37 : Dc jdk_65_method_131_code 37 (.return_) 1 38 := ⟨by decide +kernel, rfl⟩
theorem k65_132_0 : Dc jdk_65_method_132_code 0 (.iload_n 1) 1 1 := ⟨by decide +kernel, rfl⟩
theorem k65_132_1 : Bc jdk_65_method_132_code 1 (.ifCond .ne) 10 4 := ⟨9, by decide +kernel, by decide, by decide, rfl⟩
theorem k65_132_4 : Dc jdk_65_method_132_code 4 (.iload_n 2) 1 5 := ⟨by decide +kernel, rfl⟩
theorem k65_132_5 : Dc jdk_65_method_132_code 5 (.aload_n 0) 1 6 := ⟨by decide +kernel, rfl⟩
theorem k65_132_6 : Dc jdk_65_method_132_code 6 (.arraylength) 1 7 := ⟨by decide +kernel, rfl⟩
theorem k65_132_7 : Bc jdk_65_method_132_code 7 (.if_icmp .eq) 17 10 := ⟨10, by decide +kernel, by decide, by decide, rfl⟩
theorem k65_132_10 : Dc jdk_65_method_132_code 10 (.aload_n 0) 1 11 := ⟨by decide +kernel, rfl⟩
theorem k65_132_11 : Dc jdk_65_method_132_code 11 (.iload_n 1) 1 12 := ⟨by decide +kernel, rfl⟩
theorem k65_132_12 : Dc jdk_65_method_132_code 12 (.iload_n 2) 1 13 := ⟨by decide +kernel, rfl⟩
theorem k65_132_13 : Dc jdk_65_method_132_code 13 (.invokestatic 339) 3 16 := ⟨by decide +kernel, rfl⟩
theorem k65_132_16 : Dc jdk_65_method_132_code 16 (.areturn) 1 17 := ⟨by decide +kernel, rfl⟩
theorem k65_132_17 : Dc jdk_65_method_132_code 17 (.aload_n 0) 1 18 := ⟨by decide +kernel, rfl⟩
theorem k65_132_18 : Dc jdk_65_method_132_code 18 (.invokevirtual 310) 3 21 := ⟨by decide +kernel, rfl⟩
theorem k65_132_21 : Dc jdk_65_method_132_code 21 (.checkcast 311) 3 24 := ⟨by decide +kernel, rfl⟩
theorem k65_132_24 : Dc jdk_65_method_132_code 24 (.areturn) 1 25 := ⟨by decide +kernel, rfl⟩
theorem k65_133_0 : Dc jdk_65_method_133_code 0 (.iload_n 1) 1 1 := ⟨by decide +kernel, rfl⟩
theorem k65_133_1 : Dc jdk_65_method_133_code 1 (.iload_n 2) 1 2 := ⟨by decide +kernel, rfl⟩
theorem k65_133_2 : Dc jdk_65_method_133_code 2 (.invokestatic 343) 3 5 := ⟨by decide +kernel, rfl⟩
theorem k65_133_5 : Dc jdk_65_method_133_code 5 (.iload_n 2) 1 6 := ⟨by decide +kernel, rfl⟩
theorem k65_133_6 : Dc jdk_65_method_133_code 6 (.iload_n 1) 1 7 := ⟨by decide +kernel, rfl⟩
theorem k65_133_7 : Dc jdk_65_method_133_code 7 (.isub) 1 8 := ⟨by decide +kernel, rfl⟩
theorem k65_133_8 : Dc jdk_65_method_133_code 8 (.istore_n 3) 1 9 := ⟨by decide +kernel, rfl⟩
theorem k65_133_9 : Dc jdk_65_method_133_code 9 (.iload_n 3) 1 10 := ⟨by decide +kernel, rfl⟩
theorem k65_133_10 : Dc jdk_65_method_133_code 10 (.newarray .byte) 2 12 := ⟨by decide +kernel, rfl⟩
theorem k65_133_12 : Dc jdk_65_method_133_code 12 (.astore 4) 2 14 := ⟨by decide +kernel, rfl⟩
theorem k65_133_14 : Dc jdk_65_method_133_code 14 (.aload_n 0) 1 15 := ⟨by decide +kernel, rfl⟩
theorem k65_133_15 : Dc jdk_65_method_133_code 15 (.iload_n 1) 1 16 := ⟨by decide +kernel, rfl⟩
theorem k65_133_16 : Dc jdk_65_method_133_code 16 (.aload 4) 2 18 := ⟨by decide +kernel, rfl⟩
theorem k65_133_18 : Dc jdk_65_method_133_code 18 (.iconst 0) 1 19 := ⟨by decide +kernel, rfl⟩
theorem k65_133_19 : Dc jdk_65_method_133_code 19 (.aload_n 0) 1 20 := ⟨by decide +kernel, rfl⟩
theorem k65_133_20 : Dc jdk_65_method_133_code 20 (.arraylength) 1 21 := ⟨by decide +kernel, rfl⟩
theorem k65_133_21 : Dc jdk_65_method_133_code 21 (.iload_n 1) 1 22 := ⟨by decide +kernel, rfl⟩
theorem k65_133_22 : Dc jdk_65_method_133_code 22 (.isub) 1 23 := ⟨by decide +kernel, rfl⟩
theorem k65_133_23 : Dc jdk_65_method_133_code 23 (.iload_n 3) 1 24 := ⟨by decide +kernel, rfl⟩
theorem k65_133_24 : Dc jdk_65_method_133_code 24 (.invokestatic 304) 3 27 := ⟨by decide +kernel, rfl⟩
theorem k65_133_27 : Dc jdk_65_method_133_code 27 (.invokestatic 150) 3 30 := ⟨by decide +kernel, rfl⟩
theorem k65_133_30 : Dc jdk_65_method_133_code 30 (.aload 4) 2 32 := ⟨by decide +kernel, rfl⟩
theorem k65_133_32 : Dc jdk_65_method_133_code 32 (.areturn) 1 33 := ⟨by decide +kernel, rfl⟩
theorem k67_1_0 : Dc jdk_67_method_1_code 0 (.aload_n 0) 1 1 := ⟨by decide +kernel, rfl⟩
theorem k67_1_1 : Dc jdk_67_method_1_code 1 (.bipush 16) 2 3 := ⟨by decide +kernel, rfl⟩
theorem k67_1_3 : Dc jdk_67_method_1_code 3 (.invokespecial 1) 3 6 := ⟨by decide +kernel, rfl⟩
theorem k67_1_6 : Dc jdk_67_method_1_code 6 (.return_) 1 7 := ⟨by decide +kernel, rfl⟩
theorem k67_42_0 : Dc jdk_67_method_42_code 0 (.new 18) 3 3 := ⟨by decide +kernel, rfl⟩
theorem k67_42_3 : Dc jdk_67_method_42_code 3 (.dup) 1 4 := ⟨by decide +kernel, rfl⟩
theorem k67_42_4 : Dc jdk_67_method_42_code 4 (.aload_n 0) 1 5 := ⟨by decide +kernel, rfl⟩
theorem k67_42_5 : Dc jdk_67_method_42_code 5 (.invokespecial 137) 3 8 := ⟨by decide +kernel, rfl⟩
theorem k67_42_8 : Dc jdk_67_method_42_code 8 (.areturn) 1 9 := ⟨by decide +kernel, rfl⟩
theorem k67_7_0 : Dc jdk_67_method_7_code 0 (.aload_n 0) 1 1 := ⟨by decide +kernel, rfl⟩
theorem k67_7_1 : Dc jdk_67_method_7_code 1 (.aload_n 1) 1 2 := ⟨by decide +kernel, rfl⟩
theorem k67_7_2 : Dc jdk_67_method_7_code 2 (.invokespecial 29) 3 5 := ⟨by decide +kernel, rfl⟩
theorem k67_7_5 : Dc jdk_67_method_7_code 5 (.pop) 1 6 := ⟨by decide +kernel, rfl⟩
theorem k67_7_6 : Dc jdk_67_method_7_code 6 (.aload_n 0) 1 7 := ⟨by decide +kernel, rfl⟩
theorem k67_7_7 : Dc jdk_67_method_7_code 7 (.areturn) 1 8 := ⟨by decide +kernel, rfl⟩
theorem k67_93_0 : Dc jdk_67_method_93_code 0 (.aload_n 0) 1 1 := ⟨by decide +kernel, rfl⟩
theorem k67_93_1 : Dc jdk_67_method_93_code 1 (.invokespecial 343) 3 4 := ⟨by decide +kernel, rfl⟩
theorem k67_93_4 : Dc jdk_67_method_93_code 4 (.ireturn) 1 5 := ⟨by decide +kernel, rfl⟩
theorem k68_10_0 : Dc jdk_68_method_10_code 0 (.aload_n 0) 1 1 := ⟨by decide +kernel, rfl⟩
theorem k68_10_1 : Dc jdk_68_method_10_code 1 (.getfield 15) 3 4 := ⟨by decide +kernel, rfl⟩
theorem k68_10_4 : Dc jdk_68_method_10_code 4 (.arraylength) 1 5 := ⟨by decide +kernel, rfl⟩
theorem k68_10_5 : Dc jdk_68_method_10_code 5 (.istore_n 2) 1 6 := ⟨by decide +kernel, rfl⟩
theorem k68_10_6 : Dc jdk_68_method_10_code 6 (.iload_n 1) 1 7 := ⟨by decide +kernel, rfl⟩
theorem k68_10_7 : Dc jdk_68_method_10_code 7 (.aload_n 0) 1 8 := ⟨by decide +kernel, rfl⟩
theorem k68_10_8 : Dc jdk_68_method_10_code 8 (.getfield 22) 3 11 := ⟨by decide +kernel, rfl⟩
theorem k68_10_11 : Dc jdk_68_method_10_code 11 (.ishl) 1 12 := ⟨by decide +kernel, rfl⟩
theorem k68_10_12 : Dc jdk_68_method_10_code 12 (.istore_n 3) 1 13 := ⟨by decide +kernel, rfl⟩
theorem k68_10_13 : Dc jdk_68_method_10_code 13 (.iload_n 3) 1 14 := ⟨by decide +kernel, rfl⟩
theorem k68_10_14 : Dc jdk_68_method_10_code 14 (.iload_n 2) 1 15 := ⟨by decide +kernel, rfl⟩
theorem k68_10_15 : Dc jdk_68_method_10_code 15 (.isub) 1 16 := ⟨by decide +kernel, rfl⟩
theorem k68_10_16 : Dc jdk_68_method_10_code 16 (.istore 4) 2 18 := ⟨by decide +kernel, rfl⟩
theorem k68_10_18 : Dc jdk_68_method_10_code 18 (.iload_n 2) 1 19 := ⟨by decide +kernel, rfl⟩
theorem k68_10_19 : Dc jdk_68_method_10_code 19 (.iload 4) 2 21 := ⟨by decide +kernel, rfl⟩
theorem k68_10_21 : Dc jdk_68_method_10_code 21 (.iload_n 2) 1 22 := ⟨by decide +kernel, rfl⟩
theorem k68_10_22 : Dc jdk_68_method_10_code 22 (.iconst 2) 1 23 := ⟨by decide +kernel, rfl⟩
theorem k68_10_23 : Dc jdk_68_method_10_code 23 (.aload_n 0) 1 24 := ⟨by decide +kernel, rfl⟩
theorem k68_10_24 : Dc jdk_68_method_10_code 24 (.getfield 22) 3 27 := ⟨by decide +kernel, rfl⟩
theorem k68_10_27 : Dc jdk_68_method_10_code 27 (.ishl) 1 28 := ⟨by decide +kernel, rfl⟩
theorem k68_10_28 : Dc jdk_68_method_10_code 28 (.iadd) 1 29 := ⟨by decide +kernel, rfl⟩
theorem k68_10_29 : Dc jdk_68_method_10_code 29 (.invokestatic 114) 3 32 := ⟨by decide +kernel, rfl⟩
theorem k68_10_32 : Dc jdk_68_method_10_code 32 (.istore 5) 2 34 := ⟨by decide +kernel, rfl⟩
theorem k68_10_34 : Dc jdk_68_method_10_code 34 (.iload 5) 2 36 := ⟨by decide +kernel, rfl⟩
theorem k68_10_36 : Dc jdk_68_method_10_code 36 (.ldc 39) 2 38 := ⟨by decide +kernel, rfl⟩
theorem k68_10_38 : Bc jdk_68_method_10_code 38 (.if_icmp .ne) 51 41 := ⟨13, by decide +kernel, by decide, by decide, rfl⟩
theorem k68_10_51 : Dc jdk_68_method_10_code 51 (.iload 5) 2 53 := ⟨by decide +kernel, rfl⟩
theorem k68_10_53 : Dc jdk_68_method_10_code 53 (.aload_n 0) 1 54 := ⟨by decide +kernel, rfl⟩
theorem k68_10_54 : Dc jdk_68_method_10_code 54 (.getfield 22) 3 57 := ⟨by decide +kernel, rfl⟩
theorem k68_10_57 : Dc jdk_68_method_10_code 57 (.ishr) 1 58 := ⟨by decide +kernel, rfl⟩
theorem k68_10_58 : Dc jdk_68_method_10_code 58 (.ireturn) 1 59 := ⟨by decide +kernel, rfl⟩
theorem k68_22_0 : Dc jdk_68_method_22_code 0 (.aload_n 1) 1 1 := ⟨by decide +kernel, rfl⟩
theorem k68_22_1 : Bc jdk_68_method_22_code 1 (.ifnonnull) 9 4 := ⟨8, by decide +kernel, by decide, by decide, rfl⟩
theorem k68_22_9 : Dc jdk_68_method_22_code 9 (.aload_n 1) 1 10 := ⟨by decide +kernel, rfl⟩
theorem k68_22_10 : Dc jdk_68_method_22_code 10 (.invokevirtual 32) 3 13 := ⟨by decide +kernel, rfl⟩
theorem k68_22_13 : Dc jdk_68_method_22_code 13 (.istore_n 2) 1 14 := ⟨by decide +kernel, rfl⟩
theorem k68_22_14 : Dc jdk_68_method_22_code 14 (.aload_n 0) 1 15 := ⟨by decide +kernel, rfl⟩
theorem k68_22_15 : Dc jdk_68_method_22_code 15 (.aload_n 0) 1 16 := ⟨by decide +kernel, rfl⟩
theorem k68_22_16 : Dc jdk_68_method_22_code 16 (.getfield 79) 3 19 := ⟨by decide +kernel, rfl⟩
theorem k68_22_19 : Dc jdk_68_method_22_code 19 (.iload_n 2) 1 20 := ⟨by decide +kernel, rfl⟩
theorem k68_22_20 : Dc jdk_68_method_22_code 20 (.iadd) 1 21 := ⟨by decide +kernel, rfl⟩
theorem k68_22_21 : Dc jdk_68_method_22_code 21 (.invokevirtual 100) 3 24 := ⟨by decide +kernel, rfl⟩
theorem k68_22_24 : Dc jdk_68_method_22_code 24 (.aload_n 0) 1 25 := ⟨by decide +kernel, rfl⟩
theorem k68_22_25 : Dc jdk_68_method_22_code 25 (.aload_n 0) 1 26 := ⟨by decide +kernel, rfl⟩
theorem k68_22_26 : Dc jdk_68_method_22_code 26 (.getfield 79) 3 29 := ⟨by decide +kernel, rfl⟩
theorem k68_22_29 : Dc jdk_68_method_22_code 29 (.aload_n 1) 1 30 := ⟨by decide +kernel, rfl⟩
theorem k68_22_30 : Dc jdk_68_method_22_code 30 (.invokevirtual 208) 3 33 := ⟨by decide +kernel, rfl⟩
theorem k68_22_33 : Dc jdk_68_method_22_code 33 (.aload_n 0) 1 34 := ⟨by decide +kernel, rfl⟩
theorem k68_22_34 : Dc jdk_68_method_22_code 34 (.dup) 1 35 := ⟨by decide +kernel, rfl⟩
theorem k68_22_35 : Dc jdk_68_method_22_code 35 (.getfield 79) 3 38 := ⟨by decide +kernel, rfl⟩
theorem k68_22_38 : Dc jdk_68_method_22_code 38 (.iload_n 2) 1 39 := ⟨by decide +kernel, rfl⟩
theorem k68_22_39 : Dc jdk_68_method_22_code 39 (.iadd) 1 40 := ⟨by decide +kernel, rfl⟩
theorem k68_22_40 : Dc jdk_68_method_22_code 40 (.putfield 79) 3 43 := ⟨by decide +kernel, rfl⟩
theorem k68_22_43 : Dc jdk_68_method_22_code 43 (.aload_n 0) 1 44 := ⟨by decide +kernel, rfl⟩
theorem k68_22_44 : Dc jdk_68_method_22_code 44 (.areturn) 1 45 := ⟨by decide +kernel, rfl⟩
theorem k68_2_0 : Dc jdk_68_method_2_code 0 (.aload_n 0) 1 1 := ⟨by decide +kernel, rfl⟩
theorem k68_2_1 : Dc jdk_68_method_2_code 1 (.invokespecial 3) 3 4 := ⟨by decide +kernel, rfl⟩
theorem k68_2_4 : Dc jdk_68_method_2_code 4 (.getstatic 18) 3 7 := ⟨by decide +kernel, rfl⟩
theorem k68_2_7 : Bc jdk_68_method_2_code 7 (.ifCond .eq) 25 10 := ⟨18, by decide +kernel, by decide, by decide, rfl⟩
theorem k68_2_10 : Dc jdk_68_method_2_code 10 (.aload_n 0) 1 11 := ⟨by decide +kernel, rfl⟩
theorem k68_2_11 : Dc jdk_68_method_2_code 11 (.iload_n 1) 1 12 := ⟨by decide +kernel, rfl⟩
theorem k68_2_12 : Dc jdk_68_method_2_code 12 (.newarray .byte) 2 14 := ⟨by decide +kernel, rfl⟩
theorem k68_2_14 : Dc jdk_68_method_2_code 14 (.putfield 15) 3 17 := ⟨by decide +kernel, rfl⟩
theorem k68_2_17 : Dc jdk_68_method_2_code 17 (.aload_n 0) 1 18 := ⟨by decide +kernel, rfl⟩
theorem k68_2_18 : Dc jdk_68_method_2_code 18 (.iconst 0) 1 19 := ⟨by decide +kernel, rfl⟩
theorem k68_2_19 : Dc jdk_68_method_2_code 19 (.putfield 22) 3 22 := ⟨by decide +kernel, rfl⟩
theorem k68_2_22 : Bc jdk_68_method_2_code 22 (.goto) 38 25 := ⟨16, by decide +kernel, by decide, by decide, rfl⟩
theorem k68_2_38 : Dc jdk_68_method_2_code 38 (.return_) 1 39 := ⟨by decide +kernel, rfl⟩
theorem k68_64_0 : Dc jdk_68_method_64_code 0 (.aload_n 0) 1 1 := ⟨by decide +kernel, rfl⟩
theorem k68_64_1 : Dc jdk_68_method_64_code 1 (.getfield 15) 3 4 := ⟨by decide +kernel, rfl⟩
theorem k68_64_4 : Dc jdk_68_method_64_code 4 (.areturn) 1 5 := ⟨by decide +kernel, rfl⟩
theorem k68_68_0 : Dc jdk_68_method_68_code 0 (.getstatic 18) 3 3 := ⟨by decide +kernel, rfl⟩
theorem k68_68_3 : Bc jdk_68_method_68_code 3 (.ifCond .eq) 17 6 := ⟨14, by decide +kernel, by decide, by decide, rfl⟩
theorem k68_68_6 : Dc jdk_68_method_68_code 6 (.aload_n 0) 1 7 := ⟨by decide +kernel, rfl⟩
theorem k68_68_7 : Dc jdk_68_method_68_code 7 (.getfield 22) 3 10 := ⟨by decide +kernel, rfl⟩
theorem k68_68_10 : Bc jdk_68_method_68_code 10 (.ifCond .ne) 17 13 := ⟨7, by decide +kernel, by decide, by decide, rfl⟩
theorem k68_68_13 : Dc jdk_68_method_68_code 13 (.iconst 1) 1 14 := ⟨by decide +kernel, rfl⟩
theorem k68_68_14 : Bc jdk_68_method_68_code 14 (.goto) 18 17 := ⟨4, by decide +kernel, by decide, by decide, rfl⟩
theorem k68_68_18 : Dc jdk_68_method_68_code 18 (.ireturn) 1 19 := ⟨by decide +kernel, rfl⟩
theorem k68_6_0 : Dc jdk_68_method_6_code 0 (.aload_n 0) 1 1 := ⟨by decide +kernel, rfl⟩
theorem k68_6_1 : Dc jdk_68_method_6_code 1 (.getfield 79) 3 4 := ⟨by decide +kernel, rfl⟩
theorem k68_6_4 : Dc jdk_68_method_6_code 4 (.ireturn) 1 5 := ⟨by decide +kernel, rfl⟩
theorem k68_71_0 : Dc jdk_68_method_71_code 0 (.getstatic 18) 3 3 := ⟨by decide +kernel, rfl⟩
theorem k68_71_3 : Bc jdk_68_method_71_code 3 (.ifCond .eq) 21 6 := ⟨18, by decide +kernel, by decide, by decide, rfl⟩
theorem k68_71_6 : Dc jdk_68_method_71_code 6 (.aload_n 0) 1 7 := ⟨by decide +kernel, rfl⟩
theorem k68_71_7 : Dc jdk_68_method_71_code 7 (.getfield 22) 3 10 := ⟨by decide +kernel, rfl⟩
theorem k68_71_10 : Dc jdk_68_method_71_code 10 (.aload_n 1) 1 11 := ⟨by decide +kernel, rfl⟩
theorem k68_71_11 : Dc jdk_68_method_71_code 11 (.invokevirtual 40) 3 14 := ⟨by decide +kernel, rfl⟩
theorem k68_71_14 : Bc jdk_68_method_71_code 14 (.if_icmp .eq) 21 17 := ⟨7, by decide +kernel, by decide, by decide, rfl⟩
theorem k68_71_21 : Dc jdk_68_method_71_code 21 (.return_) 1 22 := ⟨by decide +kernel, rfl⟩
theorem k68_73_0 : Dc jdk_68_method_73_code 0 (.aload_n 0) 1 1 := ⟨by decide +kernel, rfl⟩
theorem k68_73_1 : Dc jdk_68_method_73_code 1 (.aload_n 2) 1 2 := ⟨by decide +kernel, rfl⟩
theorem k68_73_2 : Dc jdk_68_method_73_code 2 (.invokevirtual 397) 3 5 := ⟨by decide +kernel, rfl⟩
theorem k68_73_5 : Dc jdk_68_method_73_code 5 (.aload_n 2) 1 6 := ⟨by decide +kernel, rfl⟩
theorem k68_73_6 : Dc jdk_68_method_73_code 6 (.aload_n 0) 1 7 := ⟨by decide +kernel, rfl⟩
theorem k68_73_7 : Dc jdk_68_method_73_code 7 (.getfield 15) 3 10 := ⟨by decide +kernel, rfl⟩
theorem k68_73_10 : Dc jdk_68_method_73_code 10 (.iload_n 1) 1 11 := ⟨by decide +kernel, rfl⟩
theorem k68_73_11 : Dc jdk_68_method_73_code 11 (.aload_n 0) 1 12 := ⟨by decide +kernel, rfl⟩
theorem k68_73_12 : Dc jdk_68_method_73_code 12 (.getfield 22) 3 15 := ⟨by decide +kernel, rfl⟩
theorem k68_73_15 : Dc jdk_68_method_73_code 15 (.invokevirtual 399) 3 18 := ⟨by decide +kernel, rfl⟩
theorem k68_73_18 : Dc jdk_68_method_73_code 18 (.return_) 1 19 := ⟨by decide +kernel, rfl⟩
theorem k68_9_0 : Dc jdk_68_method_9_code 0 (.aload_n 0) 1 1 := ⟨by decide +kernel, rfl⟩
theorem k68_9_1 : Dc jdk_68_method_9_code 1 (.getfield 15) 3 4 := ⟨by decide +kernel, rfl⟩
theorem k68_9_4 : Dc jdk_68_method_9_code 4 (.arraylength) 1 5 := ⟨by decide +kernel, rfl⟩
theorem k68_9_5 : Dc jdk_68_method_9_code 5 (.aload_n 0) 1 6 := ⟨by decide +kernel, rfl⟩
theorem k68_9_6 : Dc jdk_68_method_9_code 6 (.getfield 22) 3 9 := ⟨by decide +kernel, rfl⟩
theorem k68_9_9 : Dc jdk_68_method_9_code 9 (.ishr) 1 10 := ⟨by decide +kernel, rfl⟩
theorem k68_9_10 : Dc jdk_68_method_9_code 10 (.istore_n 2) 1 11 := ⟨by decide +kernel, rfl⟩
theorem k68_9_11 : Dc jdk_68_method_9_code 11 (.iload_n 1) 1 12 := ⟨by decide +kernel, rfl⟩
theorem k68_9_12 : Dc jdk_68_method_9_code 12 (.iload_n 2) 1 13 := ⟨by decide +kernel, rfl⟩
theorem k68_9_13 : Dc jdk_68_method_9_code 13 (.isub) 1 14 := ⟨by decide +kernel, rfl⟩
theorem k68_9_14 : Bc jdk_68_method_9_code 14 (.ifCond .le) 38 17 := ⟨24, by decide +kernel, by decide, by decide, rfl⟩
theorem k68_9_17 : Dc jdk_68_method_9_code 17 (.aload_n 0) 1 18 := ⟨by decide +kernel, rfl⟩
theorem k68_9_18 : Dc jdk_68_method_9_code 18 (.aload_n 0) 1 19 := ⟨by decide +kernel, rfl⟩
theorem k68_9_19 : Dc jdk_68_method_9_code 19 (.getfield 15) 3 22 := ⟨by decide +kernel, rfl⟩
theorem k68_9_22 : Dc jdk_68_method_9_code 22 (.aload_n 0) 1 23 := ⟨by decide +kernel, rfl⟩
theorem k68_9_23 : Dc jdk_68_method_9_code 23 (.iload_n 1) 1 24 := ⟨by decide +kernel, rfl⟩
theorem k68_9_24 : Dc jdk_68_method_9_code 24 (.invokevirtual 104) 3 27 := ⟨by decide +kernel, rfl⟩
theorem k68_9_27 : Dc jdk_68_method_9_code 27 (.aload_n 0) 1 28 := ⟨by decide +kernel, rfl⟩
theorem k68_9_28 : Dc jdk_68_method_9_code 28 (.getfield 22) 3 31 := ⟨by decide +kernel, rfl⟩
theorem k68_9_31 : Dc jdk_68_method_9_code 31 (.ishl) 1 32 := ⟨by decide +kernel, rfl⟩
theorem k68_9_32 : Dc jdk_68_method_9_code 32 (.invokestatic 108) 3 35 := ⟨by decide +kernel, rfl⟩
theorem k68_9_35 : Dc jdk_68_method_9_code 35 (.putfield 15) 3 38 := ⟨by decide +kernel, rfl⟩
theorem k68_9_38 : Dc jdk_68_method_9_code 38 (.return_) 1 39 := ⟨by decide +kernel, rfl⟩
theorem k78_2_0 : Dc jdk_78_method_2_code 0 (.aload_n 0) 1 1 := ⟨by decide +kernel, rfl⟩
theorem k78_2_1 : Dc jdk_78_method_2_code 1 (.invokespecial 1) 3 4 := ⟨by decide +kernel, rfl⟩
theorem k78_2_4 : Dc jdk_78_method_2_code 4 (.aload_n 0) 1 5 := ⟨by decide +kernel, rfl⟩
theorem k78_2_5 : Dc jdk_78_method_2_code 5 (.aload_n 0) 1 6 := ⟨by decide +kernel, rfl⟩
theorem k78_2_6 : Dc jdk_78_method_2_code 6 (.putfield 7) 3 9 := ⟨by decide +kernel, rfl⟩
theorem k78_2_9 : Dc jdk_78_method_2_code 9 (.aload_n 0) 1 10 := ⟨by decide +kernel, rfl⟩
theorem k78_2_10 : Dc jdk_78_method_2_code 10 (.getstatic 13) 3 13 := ⟨by decide +kernel, rfl⟩
theorem k78_2_13 : Dc jdk_78_method_2_code 13 (.putfield 17) 3 16 := ⟨by decide +kernel, rfl⟩
theorem k78_2_16 : Dc jdk_78_method_2_code 16 (.aload_n 0) 1 17 := ⟨by decide +kernel, rfl⟩
theorem k78_2_17 : Dc jdk_78_method_2_code 17 (.getstatic 20) 3 20 := ⟨by decide +kernel, rfl⟩
theorem k78_2_20 : Dc jdk_78_method_2_code 20 (.putfield 24) 3 23 := ⟨by decide +kernel, rfl⟩
theorem k78_2_23 : Dc jdk_78_method_2_code 23 (.aload_n 0) 1 24 := ⟨by decide +kernel, rfl⟩
theorem k78_2_24 : Dc jdk_78_method_2_code 24 (.invokevirtual 27) 3 27 := ⟨by decide +kernel, rfl⟩
theorem k78_2_27 : Dc jdk_78_method_2_code 27 (.pop) 1 28 := ⟨by decide +kernel, rfl⟩
theorem k78_2_28 : Dc jdk_78_method_2_code 28 (.aload_n 0) 1 29 := ⟨by decide +kernel, rfl⟩
theorem k78_2_29 : Dc jdk_78_method_2_code 29 (.aload_n 1) 1 30 := ⟨by decide +kernel, rfl⟩
theorem k78_2_30 : Dc jdk_78_method_2_code 30 (.putfield 31) 3 33 := ⟨by decide +kernel, rfl⟩
theorem k78_2_33 : Dc jdk_78_method_2_code 33 (.return_) 1 34 := ⟨by decide +kernel, rfl⟩
theorem k78_6_0 : Dc jdk_78_method_6_code 0 (.aload_n 0) 1 1 := ⟨by decide +kernel, rfl⟩
theorem k78_6_1 : Dc jdk_78_method_6_code 1 (.getfield 31) 3 4 := ⟨by decide +kernel, rfl⟩
theorem k78_6_4 : Dc jdk_78_method_6_code 4 (.areturn) 1 5 := ⟨by decide +kernel, rfl⟩
theorem d3_0 : Dc method_3_code 0 (.iload_n 0) 1 1 := ⟨by decide +kernel, rfl⟩
theorem d3_1 : Dc method_3_code 1 (.bipush 8) 2 3 := ⟨by decide +kernel, rfl⟩
theorem d3_3 : Dc method_3_code 3 (.iload_n 1) 1 4 := ⟨by decide +kernel, rfl⟩
theorem d3_4 : Dc method_3_code 4 (.imul) 1 5 := ⟨by decide +kernel, rfl⟩
theorem d3_5 : Dc method_3_code 5 (.iushr) 1 6 := ⟨by decide +kernel, rfl⟩
theorem d3_6 : Dc method_3_code 6 (.sipush 255) 3 9 := ⟨by decide +kernel, rfl⟩
theorem d3_9 : Dc method_3_code 9 (.iand) 1 10 := ⟨by decide +kernel, rfl⟩
theorem d3_10 : Dc method_3_code 10 (.i2c) 1 11 := ⟨by decide +kernel, rfl⟩
theorem d3_11 : Dc method_3_code 11 (.ireturn) 1 12 := ⟨by decide +kernel, rfl⟩
theorem d4_0 : Dc method_4_code 0 (.iload_n 3) 1 1 := ⟨by decide +kernel, rfl⟩
theorem d4_1 : Bc method_4_code 1 (.ifCond .ne) 15 4 := ⟨14, by decide +kernel, by decide, by decide, rfl⟩
theorem d4_4 : Dc method_4_code 4 (.new 28) 3 7 := ⟨by decide +kernel, rfl⟩
theorem d4_7 : Dc method_4_code 7 (.dup) 1 8 := ⟨by decide +kernel, rfl⟩
theorem d4_8 : Dc method_4_code 8 (.iconst 0) 1 9 := ⟨by decide +kernel, rfl⟩
theorem d4_9 : Dc method_4_code 9 (.newarray .char) 2 11 := ⟨by decide +kernel, rfl⟩
theorem d4_11 : Dc method_4_code 11 (.invokespecial 37) 3 14 := ⟨by decide +kernel, rfl⟩
theorem d4_14 : Dc method_4_code 14 (.areturn) 1 15 := ⟨by decide +kernel, rfl⟩
theorem d4_15 : Dc method_4_code 15 (.iload_n 3) 1 16 := ⟨by decide +kernel, rfl⟩
theorem d4_16 : Dc method_4_code 16 (.iconst 1) 1 17 := ⟨by decide +kernel, rfl⟩
theorem d4_17 : Bc method_4_code 17 (.if_icmp .ne) 25 20 := ⟨8, by decide +kernel, by decide, by decide, rfl⟩
theorem d4_20 : Dc method_4_code 20 (.iload_n 0) 1 21 := ⟨by decide +kernel, rfl⟩
theorem d4_21 : Dc method_4_code 21 (.invokestatic 40) 3 24 := ⟨by decide +kernel, rfl⟩
theorem d4_24 : Dc method_4_code 24 (.areturn) 1 25 := ⟨by decide +kernel, rfl⟩
theorem d4_25 : Dc method_4_code 25 (.iload_n 3) 1 26 := ⟨by decide +kernel, rfl⟩
theorem d4_26 : Dc method_4_code 26 (.iconst 2) 1 27 := ⟨by decide +kernel, rfl⟩
theorem d4_27 : Bc method_4_code 27 (.if_icmp .ne) 49 30 := ⟨22, by decide +kernel, by decide, by decide, rfl⟩
theorem d4_30 : Dc method_4_code 30 (.new 28) 3 33 := ⟨by decide +kernel, rfl⟩
theorem d4_33 : Dc method_4_code 33 (.dup) 1 34 := ⟨by decide +kernel, rfl⟩
theorem d4_34 : Dc method_4_code 34 (.iconst 2) 1 35 := ⟨by decide +kernel, rfl⟩
theorem d4_35 : Dc method_4_code 35 (.newarray .char) 2 37 := ⟨by decide +kernel, rfl⟩
theorem d4_37 : Dc method_4_code 37 (.dup) 1 38 := ⟨by decide +kernel, rfl⟩
theorem d4_38 : Dc method_4_code 38 (.iconst 0) 1 39 := ⟨by decide +kernel, rfl⟩
theorem d4_39 : Dc method_4_code 39 (.iload_n 0) 1 40 := ⟨by decide +kernel, rfl⟩
theorem d4_40 : Dc method_4_code 40 (.castore) 1 41 := ⟨by decide +kernel, rfl⟩
theorem d4_41 : Dc method_4_code 41 (.dup) 1 42 := ⟨by decide +kernel, rfl⟩
theorem d4_42 : Dc method_4_code 42 (.iconst 1) 1 43 := ⟨by decide +kernel, rfl⟩
theorem d4_43 : Dc method_4_code 43 (.iload_n 1) 1 44 := ⟨by decide +kernel, rfl⟩
theorem d4_44 : Dc method_4_code 44 (.castore) 1 45 := ⟨by decide +kernel, rfl⟩
theorem d4_45 : Dc method_4_code 45 (.invokespecial 37) 3 48 := ⟨by decide +kernel, rfl⟩
theorem d4_48 : Dc method_4_code 48 (.areturn) 1 49 := ⟨by decide +kernel, rfl⟩
theorem d4_49 : Dc method_4_code 49 (.new 28) 3 52 := ⟨by decide +kernel, rfl⟩
theorem d4_52 : Dc method_4_code 52 (.dup) 1 53 := ⟨by decide +kernel, rfl⟩
theorem d4_53 : Dc method_4_code 53 (.iconst 3) 1 54 := ⟨by decide +kernel, rfl⟩
theorem d4_54 : Dc method_4_code 54 (.newarray .char) 2 56 := ⟨by decide +kernel, rfl⟩
theorem d4_56 : Dc method_4_code 56 (.dup) 1 57 := ⟨by decide +kernel, rfl⟩
theorem d4_57 : Dc method_4_code 57 (.iconst 0) 1 58 := ⟨by decide +kernel, rfl⟩
theorem d4_58 : Dc method_4_code 58 (.iload_n 0) 1 59 := ⟨by decide +kernel, rfl⟩
theorem d4_59 : Dc method_4_code 59 (.castore) 1 60 := ⟨by decide +kernel, rfl⟩
theorem d4_60 : Dc method_4_code 60 (.dup) 1 61 := ⟨by decide +kernel, rfl⟩
theorem d4_61 : Dc method_4_code 61 (.iconst 1) 1 62 := ⟨by decide +kernel, rfl⟩
theorem d4_62 : Dc method_4_code 62 (.iload_n 1) 1 63 := ⟨by decide +kernel, rfl⟩
theorem d4_63 : Dc method_4_code 63 (.castore) 1 64 := ⟨by decide +kernel, rfl⟩
theorem d4_64 : Dc method_4_code 64 (.dup) 1 65 := ⟨by decide +kernel, rfl⟩
theorem d4_65 : Dc method_4_code 65 (.iconst 2) 1 66 := ⟨by decide +kernel, rfl⟩
theorem d4_66 : Dc method_4_code 66 (.iload_n 2) 1 67 := ⟨by decide +kernel, rfl⟩
theorem d4_67 : Dc method_4_code 67 (.castore) 1 68 := ⟨by decide +kernel, rfl⟩
theorem d4_68 : Dc method_4_code 68 (.invokespecial 37) 3 71 := ⟨by decide +kernel, rfl⟩
theorem d4_71 : Dc method_4_code 71 (.areturn) 1 72 := ⟨by decide +kernel, rfl⟩
theorem d5_0 : Dc method_5_code 0 (.iload_n 1) 1 1 := ⟨by decide +kernel, rfl⟩
theorem d5_1 : Dc method_5_code 1 (.aload_n 0) 1 2 := ⟨by decide +kernel, rfl⟩
theorem d5_2 : Dc method_5_code 2 (.invokevirtual 27) 3 5 := ⟨by decide +kernel, rfl⟩
theorem d5_5 : Bc method_5_code 5 (.if_icmp .lt) 10 8 := ⟨5, by decide +kernel, by decide, by decide, rfl⟩
theorem d5_8 : Dc method_5_code 8 (.iconst 1) 1 9 := ⟨by decide +kernel, rfl⟩
theorem d5_9 : Dc method_5_code 9 (.ireturn) 1 10 := ⟨by decide +kernel, rfl⟩
theorem d5_10 : Dc method_5_code 10 (.aload_n 0) 1 11 := ⟨by decide +kernel, rfl⟩
theorem d5_11 : Dc method_5_code 11 (.iload_n 1) 1 12 := ⟨by decide +kernel, rfl⟩
theorem d5_12 : Dc method_5_code 12 (.invokevirtual 44) 3 15 := ⟨by decide +kernel, rfl⟩
theorem d5_15 : Dc method_5_code 15 (.iload_n 1) 1 16 := ⟨by decide +kernel, rfl⟩
theorem d5_16 : Dc method_5_code 16 (.iload_n 2) 1 17 := ⟨by decide +kernel, rfl⟩
theorem d5_17 : Dc method_5_code 17 (.iload_n 3) 1 18 := ⟨by decide +kernel, rfl⟩
theorem d5_18 : Dc method_5_code 18 (.iload 4) 2 20 := ⟨by decide +kernel, rfl⟩
theorem d5_20 : Dc method_5_code 20 (.invokestatic 48) 3 23 := ⟨by decide +kernel, rfl⟩
theorem d5_23 : Bc method_5_code 23 (.if_icmp .ne) 30 26 := ⟨7, by decide +kernel, by decide, by decide, rfl⟩
theorem d5_26 : Dc method_5_code 26 (.iconst 1) 1 27 := ⟨by decide +kernel, rfl⟩
theorem d5_27 : Bc method_5_code 27 (.goto) 31 30 := ⟨4, by decide +kernel, by decide, by decide, rfl⟩
theorem d5_31 : Dc method_5_code 31 (.ireturn) 1 32 := ⟨by decide +kernel, rfl⟩
theorem d6_0 : Dc method_6_code 0 (.ldc 52) 2 2 := ⟨by decide +kernel, rfl⟩
theorem d6_2 : Dc method_6_code 2 (.astore 4) 2 4 := ⟨by decide +kernel, rfl⟩
theorem d6_4 : Dc method_6_code 4 (.iload_n 0) 1 5 := ⟨by decide +kernel, rfl⟩
theorem d6_5 : Dc method_6_code 5 (.bipush 14) 2 7 := ⟨by decide +kernel, rfl⟩
theorem d6_7 : Bc method_6_code 7 (.if_icmp .ge) 17 10 := ⟨10, by decide +kernel, by decide, by decide, rfl⟩
theorem d6_10 : Dc method_6_code 10 (.aload 4) 2 12 := ⟨by decide +kernel, rfl⟩
theorem d6_12 : Dc method_6_code 12 (.iload_n 0) 1 13 := ⟨by decide +kernel, rfl⟩
theorem d6_13 : Dc method_6_code 13 (.invokevirtual 44) 3 16 := ⟨by decide +kernel, rfl⟩
theorem d6_16 : Dc method_6_code 16 (.ireturn) 1 17 := ⟨by decide +kernel, rfl⟩
theorem d6_17 : Dc method_6_code 17 (.iload_n 0) 1 18 := ⟨by decide +kernel, rfl⟩
theorem d6_18 : Dc method_6_code 18 (.bipush 14) 2 20 := ⟨by decide +kernel, rfl⟩
theorem d6_20 : Dc method_6_code 20 (.isub) 1 21 := ⟨by decide +kernel, rfl⟩
theorem d6_21 : Dc method_6_code 21 (.istore 5) 2 23 := ⟨by decide +kernel, rfl⟩
theorem d6_23 : Dc method_6_code 23 (.iload 5) 2 25 := ⟨by decide +kernel, rfl⟩
theorem d6_25 : Dc method_6_code 25 (.iload_n 1) 1 26 := ⟨by decide +kernel, rfl⟩
theorem d6_26 : Bc method_6_code 26 (.if_icmp .ge) 36 29 := ⟨10, by decide +kernel, by decide, by decide, rfl⟩
theorem d6_29 : Dc method_6_code 29 (.iload_n 2) 1 30 := ⟨by decide +kernel, rfl⟩
theorem d6_30 : Dc method_6_code 30 (.iload 5) 2 32 := ⟨by decide +kernel, rfl⟩
theorem d6_32 : Dc method_6_code 32 (.invokestatic 7) 3 35 := ⟨by decide +kernel, rfl⟩
theorem d6_35 : Dc method_6_code 35 (.ireturn) 1 36 := ⟨by decide +kernel, rfl⟩
theorem d6_36 : Dc method_6_code 36 (.iload 5) 2 38 := ⟨by decide +kernel, rfl⟩
theorem d6_38 : Dc method_6_code 38 (.iload_n 1) 1 39 := ⟨by decide +kernel, rfl⟩
theorem d6_39 : Dc method_6_code 39 (.isub) 1 40 := ⟨by decide +kernel, rfl⟩
theorem d6_40 : Dc method_6_code 40 (.istore 5) 2 42 := ⟨by decide +kernel, rfl⟩
theorem d6_42 : Dc method_6_code 42 (.iload 5) 2 44 := ⟨by decide +kernel, rfl⟩
theorem d6_44 : Bc method_6_code 44 (.ifCond .ne) 50 47 := ⟨6, by decide +kernel, by decide, by decide, rfl⟩
theorem d6_47 : Dc method_6_code 47 (.bipush 58) 2 49 := ⟨by decide +kernel, rfl⟩
theorem d6_49 : Dc method_6_code 49 (.ireturn) 1 50 := ⟨by decide +kernel, rfl⟩
theorem d6_50 : Dc method_6_code 50 (.iload 5) 2 52 := ⟨by decide +kernel, rfl⟩
theorem d6_52 : Dc method_6_code 52 (.iconst 1) 1 53 := ⟨by decide +kernel, rfl⟩
theorem d6_53 : Bc method_6_code 53 (.if_icmp .ne) 59 56 := ⟨6, by decide +kernel, by decide, by decide, rfl⟩
theorem d6_56 : Dc method_6_code 56 (.bipush 32) 2 58 := ⟨by decide +kernel, rfl⟩
theorem d6_58 : Dc method_6_code 58 (.ireturn) 1 59 := ⟨by decide +kernel, rfl⟩
theorem d6_59 : Dc method_6_code 59 (.iload_n 3) 1 60 := ⟨by decide +kernel, rfl⟩
theorem d6_60 : Dc method_6_code 60 (.iload 5) 2 62 := ⟨by decide +kernel, rfl⟩
theorem d6_62 : Dc method_6_code 62 (.iconst 2) 1 63 := ⟨by decide +kernel, rfl⟩
theorem d6_63 : Dc method_6_code 63 (.isub) 1 64 := ⟨by decide +kernel, rfl⟩
theorem d6_64 : Dc method_6_code 64 (.invokestatic 7) 3 67 := ⟨by decide +kernel, rfl⟩
theorem d6_67 : Dc method_6_code 67 (.ireturn) 1 68 := ⟨by decide +kernel, rfl⟩
theorem q8_11_0 : Dc prog_8_method_11_code 0 (.new 25) 3 3 := ⟨by decide +kernel, rfl⟩
theorem q8_11_3 : Dc prog_8_method_11_code 3 (.dup) 1 4 := ⟨by decide +kernel, rfl⟩
theorem q8_11_4 : Dc prog_8_method_11_code 4 (.invokespecial 27) 3 7 := ⟨by decide +kernel, rfl⟩
theorem q8_11_7 : Dc prog_8_method_11_code 7 (.ldc 70) 2 9 := ⟨by decide +kernel, rfl⟩
theorem q8_11_9 : Dc prog_8_method_11_code 9 (.invokevirtual 34) 3 12 := ⟨by decide +kernel, rfl⟩
theorem q8_11_12 : Dc prog_8_method_11_code 12 (.aload_n 0) 1 13 := ⟨by decide +kernel, rfl⟩
theorem q8_11_13 : Dc prog_8_method_11_code 13 (.invokevirtual 34) 3 16 := ⟨by decide +kernel, rfl⟩
theorem q8_11_16 : Dc prog_8_method_11_code 16 (.ldc 72) 2 18 := ⟨by decide +kernel, rfl⟩
theorem q8_11_18 : Dc prog_8_method_11_code 18 (.invokevirtual 34) 3 21 := ⟨by decide +kernel, rfl⟩
theorem q8_11_21 : Dc prog_8_method_11_code 21 (.aload_n 1) 1 22 := ⟨by decide +kernel, rfl⟩
theorem q8_11_22 : Dc prog_8_method_11_code 22 (.invokevirtual 34) 3 25 := ⟨by decide +kernel, rfl⟩
theorem q8_11_25 : Dc prog_8_method_11_code 25 (.invokevirtual 40) 3 28 := ⟨by decide +kernel, rfl⟩
theorem q8_11_28 : Dc prog_8_method_11_code 28 (.areturn) 1 29 := ⟨by decide +kernel, rfl⟩
theorem q8_3_0 : Dc prog_8_method_3_code 0 (.aload_n 0) 1 1 := ⟨by decide +kernel, rfl⟩
theorem q8_3_1 : Dc prog_8_method_3_code 1 (.aload_n 1) 1 2 := ⟨by decide +kernel, rfl⟩
theorem q8_3_2 : Dc prog_8_method_3_code 2 (.invokespecial 13) 3 5 := ⟨by decide +kernel, rfl⟩
theorem q8_3_5 : Dc prog_8_method_3_code 5 (.return_) 1 6 := ⟨by decide +kernel, rfl⟩
theorem q8_4_0 : Dc prog_8_method_4_code 0 (.new 8) 3 3 := ⟨by decide +kernel, rfl⟩
theorem q8_4_3 : Dc prog_8_method_4_code 3 (.dup) 1 4 := ⟨by decide +kernel, rfl⟩
theorem q8_4_4 : Dc prog_8_method_4_code 4 (.aload_n 0) 1 5 := ⟨by decide +kernel, rfl⟩
theorem q8_4_5 : Dc prog_8_method_4_code 5 (.aload_n 1) 1 6 := ⟨by decide +kernel, rfl⟩
theorem q8_4_6 : Dc prog_8_method_4_code 6 (.invokestatic 7) 3 9 := ⟨by decide +kernel, rfl⟩
theorem q8_4_9 : Dc prog_8_method_4_code 9 (.invokespecial 24) 3 12 := ⟨by decide +kernel, rfl⟩
theorem q8_4_12 : Dc prog_8_method_4_code 12 (.areturn) 1 13 := ⟨by decide +kernel, rfl⟩
theorem pd_0 : parseMethodDescriptor "([CIILjava/lang/Void;)V" = some ⟨[(.array .char), .int, .int, (.object "java/lang/Void")], none⟩ := by decide +kernel
theorem pd_1 : parseMethodDescriptor "([CI[BII)I" = some ⟨[(.array .char), .int, (.array .byte), .int, .int], some .int⟩ := by decide +kernel
theorem pd_2 : parseMethodDescriptor "([CII)[B" = some ⟨[(.array .char), .int, .int], some (.array .byte)⟩ := by decide +kernel
theorem pd_3 : parseMethodDescriptor "([BI)B" = some ⟨[(.array .byte), .int], some .byte⟩ := by decide +kernel
theorem pd_4 : parseMethodDescriptor "(C)Z" = some ⟨[.char], some .boolean⟩ := by decide +kernel
theorem pd_5 : parseMethodDescriptor "(C)[B" = some ⟨[.char], some (.array .byte)⟩ := by decide +kernel
theorem pd_6 : parseMethodDescriptor "([BB)V" = some ⟨[(.array .byte), .byte], none⟩ := by decide +kernel
theorem pd_7 : parseMethodDescriptor "([C)V" = some ⟨[(.array .char)], none⟩ := by decide +kernel
theorem pd_8 : parseMethodDescriptor "(C)Ljava/lang/String;" = some ⟨[.char], some (.object "java/lang/String")⟩ := by decide +kernel
theorem pd_9 : parseMethodDescriptor "(I)V" = some ⟨[.int], none⟩ := by decide +kernel
theorem pd_10 : parseMethodDescriptor "(IILjava/util/function/BiFunction;)I" = some ⟨[.int, .int, (.object "java/util/function/BiFunction")], some .int⟩ := by decide +kernel
theorem pd_11 : parseMethodDescriptor "()B" = some ⟨[], some .byte⟩ := by decide +kernel
theorem pd_12 : parseMethodDescriptor "(II)I" = some ⟨[.int, .int], some .int⟩ := by decide +kernel
theorem pd_13 : parseMethodDescriptor "(III)I" = some ⟨[.int, .int, .int], some .int⟩ := by decide +kernel
theorem pd_14 : parseMethodDescriptor "(I)I" = some ⟨[.int], some .int⟩ := by decide +kernel
theorem pd_15 : parseMethodDescriptor "([BI)[B" = some ⟨[(.array .byte), .int], some (.array .byte)⟩ := by decide +kernel
theorem pd_16 : parseMethodDescriptor "(Ljava/lang/String;)V" = some ⟨[(.object "java/lang/String")], none⟩ := by decide +kernel
theorem pd_17 : parseMethodDescriptor "([BIB)V" = some ⟨[(.array .byte), .int, .byte], none⟩ := by decide +kernel
theorem pd_18 : parseMethodDescriptor "()I" = some ⟨[], some .int⟩ := by decide +kernel
theorem pd_19 : parseMethodDescriptor "(ILjava/lang/String;)V" = some ⟨[.int, (.object "java/lang/String")], none⟩ := by decide +kernel
theorem pd_20 : parseMethodDescriptor "(Ljava/lang/String;)Ljava/lang/AbstractStringBuilder;" = some ⟨[(.object "java/lang/String")], some (.object "java/lang/AbstractStringBuilder")⟩ := by decide +kernel
theorem pd_21 : parseMethodDescriptor "()[B" = some ⟨[], some (.array .byte)⟩ := by decide +kernel
theorem pd_22 : parseMethodDescriptor "()Z" = some ⟨[], some .boolean⟩ := by decide +kernel
theorem pd_23 : parseMethodDescriptor "([BII)[B" = some ⟨[(.array .byte), .int, .int], some (.array .byte)⟩ := by decide +kernel
theorem pd_24 : parseMethodDescriptor "(Ljava/lang/AbstractStringBuilder;Ljava/lang/Void;)V" = some ⟨[(.object "java/lang/AbstractStringBuilder"), (.object "java/lang/Void")], none⟩ := by decide +kernel
theorem pd_25 : parseMethodDescriptor "(Ljava/lang/StringBuilder;)V" = some ⟨[(.object "java/lang/StringBuilder")], none⟩ := by decide +kernel
theorem pd_26 : parseMethodDescriptor "(II)V" = some ⟨[.int, .int], none⟩ := by decide +kernel
theorem pd_27 : parseMethodDescriptor "()V" = some ⟨[], none⟩ := by decide +kernel
theorem pd_28 : parseMethodDescriptor "(Ljava/lang/String;)Ljava/lang/StringBuilder;" = some ⟨[(.object "java/lang/String")], some (.object "java/lang/StringBuilder")⟩ := by decide +kernel
theorem pd_29 : parseMethodDescriptor "()Ljava/lang/String;" = some ⟨[], some (.object "java/lang/String")⟩ := by decide +kernel
theorem pd_30 : parseMethodDescriptor "(Ljava/lang/String;Ljava/lang/String;)Ljava/lang/String;" = some ⟨[(.object "java/lang/String"), (.object "java/lang/String")], some (.object "java/lang/String")⟩ := by decide +kernel
theorem pd_31 : parseMethodDescriptor "([BI)C" = some ⟨[(.array .byte), .int], some .char⟩ := by decide +kernel
theorem pd_32 : parseMethodDescriptor "(II)C" = some ⟨[.int, .int], some .char⟩ := by decide +kernel
theorem pd_33 : parseMethodDescriptor "(I)C" = some ⟨[.int], some .char⟩ := by decide +kernel
theorem pd_34 : parseMethodDescriptor "(IIII)C" = some ⟨[.int, .int, .int, .int], some .char⟩ := by decide +kernel
theorem pd_35 : parseMethodDescriptor "(CCCI)Ljava/lang/String;" = some ⟨[.char, .char, .char, .int], some (.object "java/lang/String")⟩ := by decide +kernel
theorem pd_36 : parseMethodDescriptor "(Ljava/lang/String;Ljava/lang/String;)Lcom/example/inflow/inflow/model/DeploymentException;" = some ⟨[(.object "java/lang/String"), (.object "java/lang/String")], some (.object "com/example/inflow/inflow/model/DeploymentException")⟩ := by decide +kernel
theorem pd_37 : parseMethodDescriptor "(Ljava/lang/String;IIII)Z" = some ⟨[(.object "java/lang/String"), .int, .int, .int, .int], some .boolean⟩ := by decide +kernel
theorem pn_0 : plainName "java/lang/String" = true := by first | (simp [plainName, overriddenIn]; done) | decide +kernel
theorem pn_1 : plainName "com/example/inflow/inflow/model/DeploymentExceptionForDescriptorPinLaw" = true := by first | (simp [plainName, overriddenIn]; done) | decide +kernel
theorem pn_2 : plainName "java/lang/StringUTF16" = true := by first | (simp [plainName, overriddenIn]; done) | decide +kernel
theorem pn_3 : plainName "java/lang/StringLatin1" = true := by first | (simp [plainName, overriddenIn]; done) | decide +kernel
theorem pn_4 : plainName "java/lang/AbstractStringBuilder" = true := by first | (simp [plainName, overriddenIn]; done) | decide +kernel
theorem pn_5 : plainName "java/lang/StringBuilder" = true := by first | (simp [plainName, overriddenIn]; done) | decide +kernel
theorem pn_6 : plainName "jdk/internal/util/Preconditions" = true := by first | (simp [plainName, overriddenIn]; done) | decide +kernel
theorem pn_7 : plainName "java/util/Arrays" = true := by first | (simp [plainName, overriddenIn]; done) | decide +kernel
theorem pn_8 : plainName "jdk/internal/util/ArraysSupport" = true := by first | (simp [plainName, overriddenIn]; done) | decide +kernel
theorem pn_9 : plainName "com/example/inflow/inflow/model/DeploymentException" = true := by first | (simp [plainName, overriddenIn]; done) | decide +kernel
theorem pn_10 : plainName "java/lang/Throwable" = true := by first | (simp [plainName, overriddenIn]; done) | decide +kernel
theorem pn_11 : plainName "java/lang/Exception" = true := by first | (simp [plainName, overriddenIn]; done) | decide +kernel
theorem pn_12 : plainName "java/lang/RuntimeException" = true := by first | (simp [plainName, overriddenIn]; done) | decide +kernel
variable {l : Launch} {Z : State} {a0 : Array Value} {n0 : Nat}
theorem m_min (hw : own_hw a0 Z) {h0 : Heap} {r x0 y0 : Int32} (hr : own_minI x0 y0 = r) :
    Does l Z n0 ⟨"java/lang/Math", "min", "(II)I"⟩ jdk_29_method_69_code 2 (some .int) [] { frames := 0, cells := 0, slots := 0, locals := 0 } #[(.int x0), (.int y0)] h0 (fun v h => v = some (.int r) ∧ h0 = h) := by
  refine Does.start (Jvm.Free.JP.mathPlain rfl (by decide +kernel)) ?_
  intro p e s m below meth c T X
  replace X : Sd _ _ _ _ _ "java/lang/Math" "min" _ _ _ _ _ _ _ _ _ _ _ _ _ _ _ _ := X
  refine Wp.cast (g' := mkF m 0 #[.val (.int x0), .val (.int y0)] []) (by first | (simp [entryFrame, mkF, argsToLocals, Value.category, maxLocals]; done) | rfl) ?_
  refine w_iloadN X k29_69_0 rfl ?_
  refine w_iloadN X k29_69_1 rfl ?_
  refine w_icmpgt X k29_69_2 (fun (hc2 : y0 < x0) => ?_) (fun (hc2 : ¬ y0 < x0) => ?_)
  · refine w_iloadN X k29_69_9 rfl ?_
    exact w_retI X k29_69_10 ⟨by rw [← hr]; unfold own_minI; simp only [*, if_true, if_false], rfl⟩ (by decide) (by decide)
  · refine w_iloadN X k29_69_5 rfl ?_
    refine w_goto X k29_69_6 ?_
    exact w_retI X k29_69_10 ⟨by rw [← hr]; unfold own_minI; simp only [*, if_true, if_false], rfl⟩ (by decide) (by decide)
theorem m_max (hw : own_hw a0 Z) {h0 : Heap} {r x0 y0 : Int32} (hr : own_maxI x0 y0 = r) :
    Does l Z n0 ⟨"java/lang/Math", "max", "(II)I"⟩ jdk_29_method_65_code 2 (some .int) [] { frames := 0, cells := 0, slots := 0, locals := 0 } #[(.int x0), (.int y0)] h0 (fun v h => v = some (.int r) ∧ h0 = h) := by
  refine Does.start (Jvm.Free.JP.mathPlain rfl (by decide +kernel)) ?_
  intro p e s m below meth c T X
  replace X : Sd _ _ _ _ _ "java/lang/Math" "max" _ _ _ _ _ _ _ _ _ _ _ _ _ _ _ _ := X
  refine Wp.cast (g' := mkF m 0 #[.val (.int x0), .val (.int y0)] []) (by first | (simp [entryFrame, mkF, argsToLocals, Value.category, maxLocals]; done) | rfl) ?_
  refine w_iloadN X k29_65_0 rfl ?_
  refine w_iloadN X k29_65_1 rfl ?_
  refine w_icmplt X k29_65_2 (fun (hc2 : x0 < y0) => ?_) (fun (hc2 : ¬ x0 < y0) => ?_)
  · refine w_iloadN X k29_65_9 rfl ?_
    exact w_retI X k29_65_10 ⟨by rw [← hr]; unfold own_maxI; simp only [*, if_true, if_false], rfl⟩ (by decide) (by decide)
  · refine w_iloadN X k29_65_5 rfl ?_
    refine w_goto X k29_65_6 ?_
    exact w_retI X k29_65_10 ⟨by rw [← hr]; unfold own_maxI; simp only [*, if_true, if_false], rfl⟩ (by decide) (by decide)
theorem m_x4 (hw : own_hw a0 Z) {h0 : Heap} {zc : Int32} {fm : Value} {a b : Addr} (hS : own_S Z zc fm) (ga : n0 ≤ a) (Ea : Exa Z h0 a "java/lang/String") (Va : Fld Z h0 a "java/lang/String" "value" "[B" .null) (Ca : Fld Z h0 a "java/lang/String" "coder" "B" (.int 0)) (hheld : ∀ p ∈ consts_1, Jvm.Lit.constHeld Z p.1 p.2) (hcw : Jvm.Lit.compactW.before a0 Z = true) :
    DoesG l Z n0 (own_G Z h0) ⟨"java/lang/String", "<init>", "([CIILjava/lang/Void;)V"⟩ jdk_42_method_149_code 6 none [] { frames := 1, cells := 2, slots := 4, locals := 12 } #[(.ref a), (.ref b), (.int 0), (.int 0), .null] h0 (fun v h vm => v = none ∧ Keep h0 h [a] ∧ own_G Z h vm ∧ ∃ t, Lat Z h a t (0 : Int32) []) := by
  refine DoesG.start (plainFor_of_name pn_0) ?_
  obtain ⟨S_zc, hzc, S_fm, hfm⟩ := id hS
  intro p e s m below meth c T X Y hs0 Gs
  replace X : Sd _ _ _ _ _ "java/lang/String" "<init>" _ _ _ _ _ _ _ _ _ _ _ _ _ _ _ _ := X
  refine Wp.cast (g' := mkF m 0 #[.val (.ref a), .val (.ref b), .val (.int 0), .val (.int 0), .val .null, .unset] []) (by first | (simp [entryFrame, mkF, argsToLocals, Value.category, maxLocals]; done) | rfl) ?_
  refine w_aloadN X k42_149_0 rfl (rfl) ?_
  refine w_initO X k42_149_1 (wd_18 hw) (wd_19 hw) (wd_20 hw) rfl (by decide) (leR rfl) (fun T X => ?_)
  refine w_iloadN X k42_149_4 rfl ?_
  refine w_ifne X k42_149_5 (fun hc => absurd rfl hc) (fun _ => ?_)
  refine w_aloadN X k42_149_8 rfl (rfl) ?_
  refine v_ldcX X Y k42_149_9 (wd_21 hw) (own_wS hw) (by rw [hs0]; exact fun b c r => r) (by rw [hs0]; exact fun b c r => (X.old.2.2 b c r)) ((by rw [hs0]; exact Gs) : own_G Z s.heap _).1 Gs.1 (hheld _ (List.mem_of_getElem? (i := 3) rfl)) hcw [] (by decide) 0 (by decide) (by decide) (by decide) (by decide) (fun T h1 u kk a1 b1 X Y Ex1 E1 C1 V1 B1 M1 O1 L1 N1 => ?_)
  have K1 : Keep h0 h1 [a] := (Keep.refl h0 [a]).ext Ex1
  have G1 : own_G Z h1 u := ⟨M1, O1 _ (by decide) Gs.2.1, O1 _ (by decide) Gs.2.2⟩
  have f2 := (Ea.ext Ex1)
  have f3 := (Va.ext Ex1)
  have nA1 : a1 ≠ a := own_fne V1 f3 (by nofun)
  have nB1 : b1 ≠ a := Ne.symm (own_ane f2 (wd_8 hw) B1)
  refine w_getF X k42_149_11 (host := "") (Or.inl (wd_27 hw)) Via.refl V1 (fun T X => ?_)
  refine w_putF X k42_149_14 (host := "") (Or.inl (wd_27 hw)) Via.refl f3 f2 (Or.inr ⟨(wd_23 hw), rfl, rfl⟩) (wd_8 hw) (ty := (.array .byte)) (by decide) rfl rfl ga (fun T h2 X W2 => ?_)
  have f4 := f3.same W2
  have K5 : Keep h0 h2 [a] := K1.wr W2 (Or.inl (List.mem_of_getElem? (i := 0) rfl))
  refine w_aloadN X k42_149_17 rfl (rfl) ?_
  refine v_ldcA X k42_149_18 (wd_21 hw) L1 ?_
  have f6 := (C1.other W2 (Or.inl nA1))
  refine w_getF X k42_149_20 (host := "") (Or.inl (wd_28 hw)) Via.refl f6 (fun T X => ?_)
  have f7 := (f2.wr W2)
  have f8 := ((Ca.ext Ex1).other W2 (Or.inr (slot_ne (Or.inr (wd_24 hw)) (Or.inr (wd_23 hw)) (by decide) (t := .byte) (t' := (.array .byte)) (by decide) (by decide))))
  refine w_putFN X k42_149_23 (wd_28 hw) Via.refl f8 f7 (Or.inr ⟨(wd_24 hw), rfl, rfl⟩) (wd_8 hw) (ty := .byte) (by decide) (.int 0) rfl (by decide) ga (fun T h3 X W3 => ?_)
  have f9 := f8.same W3
  have K10 : Keep h0 h3 [a] := K5.wr W3 (Or.inl (List.mem_of_getElem? (i := 0) rfl))
  have f11 := (f7.wr W3)
  have f12 := (f4.other W3 (Or.inr (slot_ne (Or.inr (wd_23 hw)) (Or.inr (wd_24 hw)) (by decide) (t := (.array .byte)) (t' := .byte) (by decide) (by decide))))
  have f13 := ((B1.other W2 nB1).other W3 nB1)
  exact g_retV X Y k42_149_26 (fun vm' hW => ⟨rfl, K10, (G1.keepA X.hZ.alike (((Keep.refl _ [a]).wr W2 (Or.inl (List.mem_singleton.mpr rfl))).wr W3 (Or.inl (List.mem_singleton.mpr rfl))) f2 f3 (wd_8 hw)).warm hW, _, ⟨f11, f9, f12, f13⟩⟩) (by decide) (by decide)
theorem m_x1 (hw : own_hw a0 Z) {h0 : Heap} {zc : Int32} {fm : Value} {a b : Addr} (hS : own_S Z zc fm) (ga : n0 ≤ a) (Ea : Exa Z h0 a "java/lang/String") (Va : Fld Z h0 a "java/lang/String" "value" "[B" .null) (Ca : Fld Z h0 a "java/lang/String" "coder" "B" (.int 0)) (hheld : ∀ p ∈ consts_1, Jvm.Lit.constHeld Z p.1 p.2) (hcw : Jvm.Lit.compactW.before a0 Z = true) (Ab : Ary Z h0 b .char []) :
    DoesG l Z n0 (own_G Z h0) ⟨"java/lang/String", "<init>", "([C)V"⟩ jdk_42_method_3_code 2 none [] { frames := 2, cells := 2, slots := 4, locals := 29 } #[(.ref a), (.ref b)] h0 (fun v h vm => v = none ∧ Keep h0 h [a] ∧ own_G Z h vm ∧ ∃ t, Lat Z h a t (0 : Int32) []) := by
  refine DoesG.start (plainFor_of_name pn_0) ?_
  obtain ⟨S_zc, hzc, S_fm, hfm⟩ := id hS
  intro p e s m below meth c T X Y hs0 Gs
  replace X : Sd _ _ _ _ _ "java/lang/String" "<init>" _ _ _ _ _ _ _ _ _ _ _ _ _ _ _ _ := X
  refine Wp.cast (g' := mkF m 0 #[.val (.ref a), .val (.ref b)] []) (by first | (simp [entryFrame, mkF, argsToLocals, Value.category, maxLocals]; done) | rfl) ?_
  refine w_aloadN X k42_3_0 rfl (rfl) ?_
  refine w_aloadN X k42_3_1 rfl (rfl) ?_
  refine w_iconst X (0 : Int32) k42_3_2 rfl ?_
  refine w_aloadN X k42_3_3 rfl (rfl) ?_
  refine w_arrlen X (0 : Int32) k42_3_4 Ab rfl ?_
  refine w_aconstNull X k42_3_5 ?_
  refine g_callI X Y (fun vm' hW => Gs.warm hW) k42_3_6 rfl (wd_14 hw) (wd_15 hw) (wd_9 hw) (wd_17 hw) (by decide) (argsL := [(.ref b), (.int 0), (.int 0), .null]) (S := []) (m_x4 hw hS ga Ea Va Ca hheld hcw) pd_0 rfl rfl rfl (by decide) (leR rfl) (by decide) (by decide) (fun T h1 v1 L1 u kk X Y q1 => ?_)
  obtain ⟨rfl, Kc1, M1, r1⟩ := q1
  show Wp _ _ _ _ (T.setTop (mkF _ _ _ []))
  exact g_retV X Y k42_3_9 (fun vm' hW => ⟨rfl, Kc1, M1.warm hW, r1⟩) (by decide) (by decide)
theorem m_byt (hw : own_hw a0 Z) {h0 : Heap} {x0 y0 : Int32}  :
    Does l Z n0 ⟨"com/example/inflow/inflow/model/DeploymentExceptionForDescriptorPinLaw", "byteAt", "(II)C"⟩ method_3_code 2 (some .char) [] { frames := 0, cells := 0, slots := 0, locals := 0 } #[(.int x0), (.int y0)] h0 (fun v h => v = some (.int (own_byt x0 y0)) ∧ h0 = h) := by
  refine Does.start (plainFor_of_name pn_1) ?_
  intro p e s m below meth c T X
  replace X : Sd _ _ _ _ _ "com/example/inflow/inflow/model/DeploymentExceptionForDescriptorPinLaw" "byteAt" _ _ _ _ _ _ _ _ _ _ _ _ _ _ _ _ := X
  refine Wp.cast (g' := mkF m 0 #[.val (.int x0), .val (.int y0)] []) (by first | (simp [entryFrame, mkF, argsToLocals, Value.category, maxLocals]; done) | rfl) ?_
  refine w_iloadN X d3_0 rfl ?_
  refine w_bipush X (8 : Int32) d3_1 rfl ?_
  refine w_iloadN X d3_3 rfl ?_
  refine w_imul X d3_4 ?_
  refine w_iushr X d3_5 ?_
  refine w_sipush X (255 : Int32) d3_6 rfl ?_
  refine w_iand X d3_9 ?_
  refine w_i2c X d3_10 ?_
  exact w_ret_char X ((((x0.toUInt32 >>> (((8 : Int32) * y0) &&& 31).toUInt32).toInt32) &&& (255 : Int32)).toUInt32.toUInt16.toUInt32.toInt32) (own_nar_c _) d3_11 ⟨rfl, rfl⟩ (by decide) (by decide)
theorem m_c5_2 (hw : own_hw a0 Z) {h0 : Heap} {a b : Addr} {c0 c1 : Int32} (Aa : Ary Z h0 a .char [(.int c0), (.int c1)]) (Ab : Ary Z h0 b .byte [(.int 0), (.int 0)]) (gb : n0 ≤ b) (nab : a ≠ b) (l0 : ¬ (255 : Int32) < c0) (l1 : ¬ (255 : Int32) < c1) :
    Does l Z n0 ⟨"java/lang/StringUTF16", "compress", "([CI[BII)I"⟩ jdk_52_method_21_code 7 (some .int) [] { frames := 0, cells := 0, slots := 0, locals := 0 } #[(.ref a), (.int 0), (.ref b), (.int 0), (.int 2)] h0 (fun v h => v = some (.int 2) ∧ Ary Z h b .byte [(.int (c0.toInt8.toInt32)), (.int (c1.toInt8.toInt32))] ∧ Keep h0 h [b]) := by
  refine Does.start (plainFor_of_name pn_2) ?_
  intro p e s m below meth c T X
  replace X : Sd _ _ _ _ _ "java/lang/StringUTF16" "compress" _ _ _ _ _ _ _ _ _ _ _ _ _ _ _ _ := X
  refine Wp.cast (g' := mkF m 0 #[.val (.ref a), .val (.int 0), .val (.ref b), .val (.int 0), .val (.int 2), .unset, .unset] []) (by first | (simp [entryFrame, mkF, argsToLocals, Value.category, maxLocals]; done) | rfl) ?_
  refine w_iconst X (0 : Int32) k52_21_0 rfl ?_
  refine w_istore X #[.val (.ref a), .val (.int 0), .val (.ref b), .val (.int 0), .val (.int 2), .val (.int 0), .unset] k52_21_1 rfl ?_
  refine w_iload X k52_21_3 rfl ?_
  refine w_iload X k52_21_5 rfl ?_
  refine w_icmpge X k52_21_7 (fun hc => absurd (by decide) hc) (fun _ => ?_)
  refine w_aloadN X k52_21_10 rfl (rfl) ?_
  refine w_iloadN X k52_21_11 rfl ?_
  refine w_caload X k52_21_12 Aa (by decide) rfl ?_
  refine w_istore X #[.val (.ref a), .val (.int 0), .val (.ref b), .val (.int 0), .val (.int 2), .val (.int 0), .val (.int c0)] k52_21_13 rfl ?_
  refine w_iload X k52_21_15 rfl ?_
  refine w_sipush X (255 : Int32) k52_21_17 rfl ?_
  refine w_icmple X k52_21_20 (fun _ => ?_) (fun hc => absurd hc l0)
  refine w_aloadN X k52_21_26 rfl (rfl) ?_
  refine w_iloadN X k52_21_27 rfl ?_
  refine w_iload X k52_21_28 rfl ?_
  refine w_i2b X k52_21_30 ?_
  refine w_bastore X k52_21_31 Ab (by decide) rfl gb (.int (c0.toInt8.toInt32)) (congrArg Value.int (own_nar_b _)) [(.int (c0.toInt8.toInt32)), (.int 0)] rfl (fun T h1 X W1 A1 => ?_)
  have K1 : Keep h0 h1 [b] := (Keep.refl h0 [b]).wr W1 (Or.inl (List.mem_of_getElem? (i := 0) rfl))
  refine w_iinc X (1 : Int32) #[.val (.ref a), .val (.int 1), .val (.ref b), .val (.int 0), .val (.int 2), .val (.int 0), .val (.int c0)] k52_21_32 rfl rfl rfl ?_
  refine w_iinc X (1 : Int32) #[.val (.ref a), .val (.int 1), .val (.ref b), .val (.int 1), .val (.int 2), .val (.int 0), .val (.int c0)] k52_21_35 rfl rfl rfl ?_
  refine w_iinc X (1 : Int32) #[.val (.ref a), .val (.int 1), .val (.ref b), .val (.int 1), .val (.int 2), .val (.int 1), .val (.int c0)] k52_21_38 rfl rfl rfl ?_
  refine w_goto X k52_21_41 ?_
  refine w_iload X k52_21_3 rfl ?_
  refine w_iload X k52_21_5 rfl ?_
  refine w_icmpge X k52_21_7 (fun hc => absurd (by decide) hc) (fun _ => ?_)
  refine w_aloadN X k52_21_10 rfl (rfl) ?_
  refine w_iloadN X k52_21_11 rfl ?_
  have f2 := (Aa.other W1 nab)
  refine w_caload X k52_21_12 f2 (by decide) rfl ?_
  refine w_istore X #[.val (.ref a), .val (.int 1), .val (.ref b), .val (.int 1), .val (.int 2), .val (.int 1), .val (.int c1)] k52_21_13 rfl ?_
  refine w_iload X k52_21_15 rfl ?_
  refine w_sipush X (255 : Int32) k52_21_17 rfl ?_
  refine w_icmple X k52_21_20 (fun _ => ?_) (fun hc => absurd hc l1)
  refine w_aloadN X k52_21_26 rfl (rfl) ?_
  refine w_iloadN X k52_21_27 rfl ?_
  refine w_iload X k52_21_28 rfl ?_
  refine w_i2b X k52_21_30 ?_
  refine w_bastore X k52_21_31 A1 (by decide) rfl gb (.int (c1.toInt8.toInt32)) (congrArg Value.int (own_nar_b _)) [(.int (c0.toInt8.toInt32)), (.int (c1.toInt8.toInt32))] rfl (fun T h2 X W2 A2 => ?_)
  have K3 : Keep h0 h2 [b] := K1.wr W2 (Or.inl (List.mem_of_getElem? (i := 0) rfl))
  refine w_iinc X (1 : Int32) #[.val (.ref a), .val (.int 2), .val (.ref b), .val (.int 1), .val (.int 2), .val (.int 1), .val (.int c1)] k52_21_32 rfl rfl rfl ?_
  refine w_iinc X (1 : Int32) #[.val (.ref a), .val (.int 2), .val (.ref b), .val (.int 2), .val (.int 2), .val (.int 1), .val (.int c1)] k52_21_35 rfl rfl rfl ?_
  refine w_iinc X (1 : Int32) #[.val (.ref a), .val (.int 2), .val (.ref b), .val (.int 2), .val (.int 2), .val (.int 2), .val (.int c1)] k52_21_38 rfl rfl rfl ?_
  refine w_goto X k52_21_41 ?_
  refine w_iload X k52_21_3 rfl ?_
  refine w_iload X k52_21_5 rfl ?_
  refine w_icmpge X k52_21_7 (fun _ => ?_) (fun hc => absurd hc Int32.lt_irrefl)
  refine w_iload X k52_21_44 rfl ?_
  exact w_retI X k52_21_46 ⟨rfl, A2, K3⟩ (by decide) (by decide)
theorem m_c3_2 (hw : own_hw a0 Z) {h0 : Heap} {a : Addr} {c0 c1 : Int32} (Aa : Ary Z h0 a .char [(.int c0), (.int c1)]) (l0 : ¬ (255 : Int32) < c0) (l1 : ¬ (255 : Int32) < c1) :
    Does l Z n0 ⟨"java/lang/StringUTF16", "compress", "([CII)[B"⟩ jdk_52_method_16_code 6 (some (.array .byte)) [] { frames := 1, cells := 1, slots := 2, locals := 18 } #[(.ref a), (.int 0), (.int 2)] h0 (fun v h => ∃ t, v = some (.ref t) ∧ h0.size ≤ t ∧ n0 ≤ t ∧ Ary Z h t .byte [(.int (c0.toInt8.toInt32)), (.int (c1.toInt8.toInt32))] ∧ Keep h0 h []) := by
  refine Does.start (plainFor_of_name pn_2) ?_
  intro p e s m below meth c T X
  replace X : Sd _ _ _ _ _ "java/lang/StringUTF16" "compress" _ _ _ _ _ _ _ _ _ _ _ _ _ _ _ _ := X
  refine Wp.cast (g' := mkF m 0 #[.val (.ref a), .val (.int 0), .val (.int 2), .unset, .unset, .unset] []) (by first | (simp [entryFrame, mkF, argsToLocals, Value.category, maxLocals]; done) | rfl) ?_
  refine w_iloadN X k52_16_0 rfl ?_
  refine w_newarr X k52_16_1 (wd_22 hw) 2 2 (by decide) (by decide) (by decide) (by decide) (by decide) (by decide) (fun T h1 b1 g1 gn1 X E1 A1 => ?_)
  replace A1 : Ary Z h1 b1 .byte [(.int 0), (.int 0)] := A1
  have sz_b1 : h0.size ≤ b1 := Nat.le_trans (Keep.refl h0 []).1 (Nat.le_of_eq g1.symm)
  have K1 : Keep h0 h1 [] := (Keep.refl h0 []).ext E1
  refine w_astoreN X #[.val (.ref a), .val (.int 0), .val (.int 2), .val (.ref b1), .unset, .unset] k52_16_3 (rfl) rfl ?_
  refine w_aloadN X k52_16_4 rfl (rfl) ?_
  refine w_iloadN X k52_16_5 rfl ?_
  refine w_aloadN X k52_16_6 rfl (rfl) ?_
  refine w_iconst X (0 : Int32) k52_16_7 rfl ?_
  refine w_iloadN X k52_16_8 rfl ?_
  have f2 := (Aa.ext E1)
  refine w_callS X k52_16_9 (wd_287 hw) (wd_288 hw) (wd_285 hw) (wd_289 hw) (by decide) (argsL := [(.ref a), (.int 0), (.ref b1), (.int 0), (.int 2)]) (S := []) (m_c5_2 hw f2 A1 gn1 (nel (ltl Aa.lt (Nat.le_of_eq g1.symm))) l0 l1) pd_1 rfl rfl rfl (by decide) (leR rfl) (by decide) (by decide) (fun T h2 v2 L2 X q2 => ?_)
  obtain ⟨rfl, Ac2, Kc2⟩ := q2
  have K3 : Keep h0 h2 [] := K1.trans Kc2 (fun x hx => by cases List.mem_singleton.mp hx; exact (Or.inr sz_b1))
  show Wp _ _ _ _ (T.setTop (mkF _ _ _ [(.int 2)]))
  refine w_istore X #[.val (.ref a), .val (.int 0), .val (.int 2), .val (.ref b1), .val (.int 2), .unset] k52_16_12 rfl ?_
  refine w_iload X k52_16_14 rfl ?_
  refine w_iloadN X k52_16_16 rfl ?_
  refine w_icmpeq X k52_16_17 (fun _ => ?_) (fun hc => absurd rfl hc)
  refine w_aloadN X k52_16_57 rfl (rfl) ?_
  exact w_retR X rfl (rfl) rfl k52_16_58 ⟨_, rfl, sz_b1, gn1, Ac2, K3⟩ (by decide) (by decide)
theorem m_cfal_2 (hw : own_hw a0 Z) {h0 : Heap} {a : Addr} {v0 v1 : Value} (Aa : Ary Z h0 a .byte [v0, v1]) :
    Does l Z n0 ⟨"java/lang/StringUTF16", "coderFromArrayLen", "([BI)B"⟩ jdk_52_method_15_code 2 (some .byte) [] { frames := 0, cells := 0, slots := 0, locals := 0 } #[(.ref a), (.int 2)] h0 (fun v h => v = some (.int 0) ∧ h0 = h) := by
  refine Does.start (plainFor_of_name pn_2) ?_
  intro p e s m below meth c T X
  replace X : Sd _ _ _ _ _ "java/lang/StringUTF16" "coderFromArrayLen" _ _ _ _ _ _ _ _ _ _ _ _ _ _ _ _ := X
  refine Wp.cast (g' := mkF m 0 #[.val (.ref a), .val (.int 2)] []) (by first | (simp [entryFrame, mkF, argsToLocals, Value.category, maxLocals]; done) | rfl) ?_
  refine w_iloadN X k52_15_0 rfl ?_
  refine w_aloadN X k52_15_1 rfl (rfl) ?_
  refine w_arrlen X (2 : Int32) k52_15_2 Aa rfl ?_
  refine w_isub X k52_15_3 ?_
  refine w_bipush X (31 : Int32) k52_15_4 rfl ?_
  refine w_iushr X k52_15_6 ?_
  refine w_i2b X k52_15_7 ?_
  exact w_ret_byte X (0 : Int32) (by decide) k52_15_8 ⟨rfl, rfl⟩ (by decide) (by decide)
theorem m_si4_2 (hw : own_hw a0 Z) {h0 : Heap} {zc : Int32} {fm : Value} {a b : Addr} {c0 c1 : Int32} (hS : own_S Z zc fm) (ga : n0 ≤ a) (Ea : Exa Z h0 a "java/lang/String") (Va : Fld Z h0 a "java/lang/String" "value" "[B" .null) (Ca : Fld Z h0 a "java/lang/String" "coder" "B" (.int 0)) (Ab : Ary Z h0 b .char [(.int c0), (.int c1)]) (l0 : ¬ (255 : Int32) < c0) (l1 : ¬ (255 : Int32) < c1) :
    Does l Z n0 ⟨"java/lang/String", "<init>", "([CIILjava/lang/Void;)V"⟩ jdk_42_method_149_code 6 none [] { frames := 2, cells := 1, slots := 2, locals := 35 } #[(.ref a), (.ref b), (.int 0), (.int 2), .null] h0 (fun v h => v = none ∧ Exa Z h a "java/lang/String" ∧ Fld Z h a "java/lang/String" "coder" "B" (.int 0) ∧ Keep h0 h [a] ∧ ∃ t, h0.size ≤ t ∧ n0 ≤ t ∧ Fld Z h a "java/lang/String" "value" "[B" (.ref t) ∧ Ary Z h t .byte [(.int (c0.toInt8.toInt32)), (.int (c1.toInt8.toInt32))]) := by
  refine Does.start (plainFor_of_name pn_0) ?_
  obtain ⟨S_zc, hzc, S_fm, hfm⟩ := id hS
  intro p e s m below meth c T X
  replace X : Sd _ _ _ _ _ "java/lang/String" "<init>" _ _ _ _ _ _ _ _ _ _ _ _ _ _ _ _ := X
  refine Wp.cast (g' := mkF m 0 #[.val (.ref a), .val (.ref b), .val (.int 0), .val (.int 2), .val .null, .unset] []) (by first | (simp [entryFrame, mkF, argsToLocals, Value.category, maxLocals]; done) | rfl) ?_
  refine w_aloadN X k42_149_0 rfl (rfl) ?_
  refine w_initO X k42_149_1 (wd_18 hw) (wd_19 hw) (wd_20 hw) rfl (by decide) (leR rfl) (fun T X => ?_)
  refine w_iloadN X k42_149_4 rfl ?_
  refine w_ifne X k42_149_5 (fun _ => ?_) (fun hc => absurd hc (by decide))
  refine w_getS X k42_149_27 (host := "") (Or.inl (wd_77 hw)) Via.refl (S_zc.ext X.old.2) (fun T X => ?_)
  refine w_ifeq X k42_149_30 (fun hc => absurd hc hzc) (fun _ => ?_)
  refine w_aloadN X k42_149_33 rfl (rfl) ?_
  refine w_iloadN X k42_149_34 rfl ?_
  refine w_iloadN X k42_149_35 rfl ?_
  refine w_callS X k42_149_36 (wd_283 hw) (wd_284 hw) (wd_285 hw) (wd_286 hw) (by decide) (argsL := [(.ref b), (.int 0), (.int 2)]) (S := []) (m_c3_2 hw Ab l0 l1) pd_2 rfl rfl rfl (by decide) (leR rfl) (by decide) (by decide) (fun T h1 v1 L1 X q1 => ?_)
  obtain ⟨t1, rfl, gt1, gn1, At1, Kc1⟩ := q1
  have K1 : Keep h0 h1 [a] := (Keep.refl h0 [a]).trans Kc1 (fun x hx => nomatch hx)
  have sz_t1 : h0.size ≤ t1 := Nat.le_trans (Keep.refl h0 [a]).1 gt1
  show Wp _ _ _ _ (T.setTop (mkF _ _ _ [(.ref t1)]))
  refine w_astore X #[.val (.ref a), .val (.ref b), .val (.int 0), .val (.int 2), .val .null, .val (.ref t1)] k42_149_39 (rfl) rfl ?_
  refine w_aloadN X k42_149_41 rfl (rfl) ?_
  refine w_aload X k42_149_42 rfl (rfl) ?_
  refine w_iloadN X k42_149_44 rfl ?_
  refine w_callS X k42_149_45 (wd_290 hw) (wd_291 hw) (wd_285 hw) (wd_292 hw) (by decide) (argsL := [(.ref t1), (.int 2)]) (S := [(.ref a)]) (m_cfal_2 hw At1) pd_3 rfl rfl rfl (by decide) (leR rfl) (by decide) (by decide) (fun T h2 v2 L2 X q2 => ?_)
  obtain ⟨rfl, rfl⟩ := q2
  show Wp _ _ _ _ (T.setTop (mkF _ _ _ [(.int 0), (.ref a)]))
  have f2 := (Ea.keep Kc1)
  have f3 := (Ca.keep Kc1 (List.not_mem_nil))
  refine w_putFN X k42_149_48 (wd_28 hw) Via.refl f3 f2 (Or.inr ⟨(wd_24 hw), rfl, rfl⟩) (wd_8 hw) (ty := .byte) (by decide) (.int 0) rfl (by decide) ga (fun T h3 X W3 => ?_)
  have f4 := f3.same W3
  have K5 : Keep h0 h3 [a] := K1.wr W3 (Or.inl (List.mem_of_getElem? (i := 0) rfl))
  refine w_aloadN X k42_149_51 rfl (rfl) ?_
  refine w_aload X k42_149_52 rfl (rfl) ?_
  have f6 := (f2.wr W3)
  have f7 := ((Va.keep Kc1 (List.not_mem_nil)).other W3 (Or.inr (slot_ne (Or.inr (wd_23 hw)) (Or.inr (wd_24 hw)) (by decide) (t := (.array .byte)) (t' := .byte) (by decide) (by decide))))
  refine w_putF X k42_149_54 (host := "") (Or.inl (wd_27 hw)) Via.refl f7 f6 (Or.inr ⟨(wd_23 hw), rfl, rfl⟩) (wd_8 hw) (ty := (.array .byte)) (by decide) rfl rfl ga (fun T h4 X W4 => ?_)
  have f8 := f7.same W4
  have K9 : Keep h0 h4 [a] := K5.wr W4 (Or.inl (List.mem_of_getElem? (i := 0) rfl))
  have f10 := (f6.wr W4)
  have f11 := (f4.other W4 (Or.inr (slot_ne (Or.inr (wd_24 hw)) (Or.inr (wd_23 hw)) (by decide) (t := .byte) (t' := (.array .byte)) (by decide) (by decide))))
  have f12 := ((At1.other W3 (Ne.symm (nel (ltl Ea.lt gt1)))).other W4 (Ne.symm (nel (ltl Ea.lt gt1))))
  exact w_retV X k42_149_57 ⟨rfl, f10, f11, K9, _, sz_t1, gn1, f8, f12⟩ (by decide) (by decide)
theorem m_si_2 (hw : own_hw a0 Z) {h0 : Heap} {zc : Int32} {fm : Value} {a b : Addr} {c0 c1 : Int32} (hS : own_S Z zc fm) (ga : n0 ≤ a) (Ea : Exa Z h0 a "java/lang/String") (Va : Fld Z h0 a "java/lang/String" "value" "[B" .null) (Ca : Fld Z h0 a "java/lang/String" "coder" "B" (.int 0)) (Ab : Ary Z h0 b .char [(.int c0), (.int c1)]) (l0 : ¬ (255 : Int32) < c0) (l1 : ¬ (255 : Int32) < c1) :
    Does l Z n0 ⟨"java/lang/String", "<init>", "([C)V"⟩ jdk_42_method_3_code 2 none [] { frames := 3, cells := 1, slots := 2, locals := 52 } #[(.ref a), (.ref b)] h0 (fun v h => v = none ∧ Exa Z h a "java/lang/String" ∧ Fld Z h a "java/lang/String" "coder" "B" (.int 0) ∧ Keep h0 h [a] ∧ ∃ t, h0.size ≤ t ∧ n0 ≤ t ∧ Fld Z h a "java/lang/String" "value" "[B" (.ref t) ∧ Ary Z h t .byte [(.int (c0.toInt8.toInt32)), (.int (c1.toInt8.toInt32))]) := by
  refine Does.start (plainFor_of_name pn_0) ?_
  obtain ⟨S_zc, hzc, S_fm, hfm⟩ := id hS
  intro p e s m below meth c T X
  replace X : Sd _ _ _ _ _ "java/lang/String" "<init>" _ _ _ _ _ _ _ _ _ _ _ _ _ _ _ _ := X
  refine Wp.cast (g' := mkF m 0 #[.val (.ref a), .val (.ref b)] []) (by first | (simp [entryFrame, mkF, argsToLocals, Value.category, maxLocals]; done) | rfl) ?_
  refine w_aloadN X k42_3_0 rfl (rfl) ?_
  refine w_aloadN X k42_3_1 rfl (rfl) ?_
  refine w_iconst X (0 : Int32) k42_3_2 rfl ?_
  refine w_aloadN X k42_3_3 rfl (rfl) ?_
  refine w_arrlen X (2 : Int32) k42_3_4 Ab rfl ?_
  refine w_aconstNull X k42_3_5 ?_
  refine w_callI X k42_3_6 rfl (wd_14 hw) (wd_15 hw) (wd_9 hw) (wd_17 hw) (by decide) (argsL := [(.ref b), (.int 0), (.int 2), .null]) (S := []) (m_si4_2 hw hS ga Ea Va Ca Ab l0 l1) pd_0 rfl rfl rfl (by decide) (leR rfl) (by decide) (by decide) (fun T h1 v1 L1 X q1 => ?_)
  obtain ⟨rfl, r1⟩ := q1
  show Wp _ _ _ _ (T.setTop (mkF _ _ _ []))
  exact w_retV X k42_3_9 ⟨rfl, r1⟩ (by decide) (by decide)
theorem m_c5_3 (hw : own_hw a0 Z) {h0 : Heap} {a b : Addr} {c0 c1 c2 : Int32} (Aa : Ary Z h0 a .char [(.int c0), (.int c1), (.int c2)]) (Ab : Ary Z h0 b .byte [(.int 0), (.int 0), (.int 0)]) (gb : n0 ≤ b) (nab : a ≠ b) (l0 : ¬ (255 : Int32) < c0) (l1 : ¬ (255 : Int32) < c1) (l2 : ¬ (255 : Int32) < c2) :
    Does l Z n0 ⟨"java/lang/StringUTF16", "compress", "([CI[BII)I"⟩ jdk_52_method_21_code 7 (some .int) [] { frames := 0, cells := 0, slots := 0, locals := 0 } #[(.ref a), (.int 0), (.ref b), (.int 0), (.int 3)] h0 (fun v h => v = some (.int 3) ∧ Ary Z h b .byte [(.int (c0.toInt8.toInt32)), (.int (c1.toInt8.toInt32)), (.int (c2.toInt8.toInt32))] ∧ Keep h0 h [b]) := by
  refine Does.start (plainFor_of_name pn_2) ?_
  intro p e s m below meth c T X
  replace X : Sd _ _ _ _ _ "java/lang/StringUTF16" "compress" _ _ _ _ _ _ _ _ _ _ _ _ _ _ _ _ := X
  refine Wp.cast (g' := mkF m 0 #[.val (.ref a), .val (.int 0), .val (.ref b), .val (.int 0), .val (.int 3), .unset, .unset] []) (by first | (simp [entryFrame, mkF, argsToLocals, Value.category, maxLocals]; done) | rfl) ?_
  refine w_iconst X (0 : Int32) k52_21_0 rfl ?_
  refine w_istore X #[.val (.ref a), .val (.int 0), .val (.ref b), .val (.int 0), .val (.int 3), .val (.int 0), .unset] k52_21_1 rfl ?_
  refine w_iload X k52_21_3 rfl ?_
  refine w_iload X k52_21_5 rfl ?_
  refine w_icmpge X k52_21_7 (fun hc => absurd (by decide) hc) (fun _ => ?_)
  refine w_aloadN X k52_21_10 rfl (rfl) ?_
  refine w_iloadN X k52_21_11 rfl ?_
  refine w_caload X k52_21_12 Aa (by decide) rfl ?_
  refine w_istore X #[.val (.ref a), .val (.int 0), .val (.ref b), .val (.int 0), .val (.int 3), .val (.int 0), .val (.int c0)] k52_21_13 rfl ?_
  refine w_iload X k52_21_15 rfl ?_
  refine w_sipush X (255 : Int32) k52_21_17 rfl ?_
  refine w_icmple X k52_21_20 (fun _ => ?_) (fun hc => absurd hc l0)
  refine w_aloadN X k52_21_26 rfl (rfl) ?_
  refine w_iloadN X k52_21_27 rfl ?_
  refine w_iload X k52_21_28 rfl ?_
  refine w_i2b X k52_21_30 ?_
  refine w_bastore X k52_21_31 Ab (by decide) rfl gb (.int (c0.toInt8.toInt32)) (congrArg Value.int (own_nar_b _)) [(.int (c0.toInt8.toInt32)), (.int 0), (.int 0)] rfl (fun T h1 X W1 A1 => ?_)
  have K1 : Keep h0 h1 [b] := (Keep.refl h0 [b]).wr W1 (Or.inl (List.mem_of_getElem? (i := 0) rfl))
  refine w_iinc X (1 : Int32) #[.val (.ref a), .val (.int 1), .val (.ref b), .val (.int 0), .val (.int 3), .val (.int 0), .val (.int c0)] k52_21_32 rfl rfl rfl ?_
  refine w_iinc X (1 : Int32) #[.val (.ref a), .val (.int 1), .val (.ref b), .val (.int 1), .val (.int 3), .val (.int 0), .val (.int c0)] k52_21_35 rfl rfl rfl ?_
  refine w_iinc X (1 : Int32) #[.val (.ref a), .val (.int 1), .val (.ref b), .val (.int 1), .val (.int 3), .val (.int 1), .val (.int c0)] k52_21_38 rfl rfl rfl ?_
  refine w_goto X k52_21_41 ?_
  refine w_iload X k52_21_3 rfl ?_
  refine w_iload X k52_21_5 rfl ?_
  refine w_icmpge X k52_21_7 (fun hc => absurd (by decide) hc) (fun _ => ?_)
  refine w_aloadN X k52_21_10 rfl (rfl) ?_
  refine w_iloadN X k52_21_11 rfl ?_
  have f2 := (Aa.other W1 nab)
  refine w_caload X k52_21_12 f2 (by decide) rfl ?_
  refine w_istore X #[.val (.ref a), .val (.int 1), .val (.ref b), .val (.int 1), .val (.int 3), .val (.int 1), .val (.int c1)] k52_21_13 rfl ?_
  refine w_iload X k52_21_15 rfl ?_
  refine w_sipush X (255 : Int32) k52_21_17 rfl ?_
  refine w_icmple X k52_21_20 (fun _ => ?_) (fun hc => absurd hc l1)
  refine w_aloadN X k52_21_26 rfl (rfl) ?_
  refine w_iloadN X k52_21_27 rfl ?_
  refine w_iload X k52_21_28 rfl ?_
  refine w_i2b X k52_21_30 ?_
  refine w_bastore X k52_21_31 A1 (by decide) rfl gb (.int (c1.toInt8.toInt32)) (congrArg Value.int (own_nar_b _)) [(.int (c0.toInt8.toInt32)), (.int (c1.toInt8.toInt32)), (.int 0)] rfl (fun T h2 X W2 A2 => ?_)
  have K3 : Keep h0 h2 [b] := K1.wr W2 (Or.inl (List.mem_of_getElem? (i := 0) rfl))
  refine w_iinc X (1 : Int32) #[.val (.ref a), .val (.int 2), .val (.ref b), .val (.int 1), .val (.int 3), .val (.int 1), .val (.int c1)] k52_21_32 rfl rfl rfl ?_
  refine w_iinc X (1 : Int32) #[.val (.ref a), .val (.int 2), .val (.ref b), .val (.int 2), .val (.int 3), .val (.int 1), .val (.int c1)] k52_21_35 rfl rfl rfl ?_
  refine w_iinc X (1 : Int32) #[.val (.ref a), .val (.int 2), .val (.ref b), .val (.int 2), .val (.int 3), .val (.int 2), .val (.int c1)] k52_21_38 rfl rfl rfl ?_
  refine w_goto X k52_21_41 ?_
  refine w_iload X k52_21_3 rfl ?_
  refine w_iload X k52_21_5 rfl ?_
  refine w_icmpge X k52_21_7 (fun hc => absurd (by decide) hc) (fun _ => ?_)
  refine w_aloadN X k52_21_10 rfl (rfl) ?_
  refine w_iloadN X k52_21_11 rfl ?_
  have f4 := (f2.other W2 nab)
  refine w_caload X k52_21_12 f4 (by decide) rfl ?_
  refine w_istore X #[.val (.ref a), .val (.int 2), .val (.ref b), .val (.int 2), .val (.int 3), .val (.int 2), .val (.int c2)] k52_21_13 rfl ?_
  refine w_iload X k52_21_15 rfl ?_
  refine w_sipush X (255 : Int32) k52_21_17 rfl ?_
  refine w_icmple X k52_21_20 (fun _ => ?_) (fun hc => absurd hc l2)
  refine w_aloadN X k52_21_26 rfl (rfl) ?_
  refine w_iloadN X k52_21_27 rfl ?_
  refine w_iload X k52_21_28 rfl ?_
  refine w_i2b X k52_21_30 ?_
  refine w_bastore X k52_21_31 A2 (by decide) rfl gb (.int (c2.toInt8.toInt32)) (congrArg Value.int (own_nar_b _)) [(.int (c0.toInt8.toInt32)), (.int (c1.toInt8.toInt32)), (.int (c2.toInt8.toInt32))] rfl (fun T h3 X W3 A3 => ?_)
  have K5 : Keep h0 h3 [b] := K3.wr W3 (Or.inl (List.mem_of_getElem? (i := 0) rfl))
  refine w_iinc X (1 : Int32) #[.val (.ref a), .val (.int 3), .val (.ref b), .val (.int 2), .val (.int 3), .val (.int 2), .val (.int c2)] k52_21_32 rfl rfl rfl ?_
  refine w_iinc X (1 : Int32) #[.val (.ref a), .val (.int 3), .val (.ref b), .val (.int 3), .val (.int 3), .val (.int 2), .val (.int c2)] k52_21_35 rfl rfl rfl ?_
  refine w_iinc X (1 : Int32) #[.val (.ref a), .val (.int 3), .val (.ref b), .val (.int 3), .val (.int 3), .val (.int 3), .val (.int c2)] k52_21_38 rfl rfl rfl ?_
  refine w_goto X k52_21_41 ?_
  refine w_iload X k52_21_3 rfl ?_
  refine w_iload X k52_21_5 rfl ?_
  refine w_icmpge X k52_21_7 (fun _ => ?_) (fun hc => absurd hc Int32.lt_irrefl)
  refine w_iload X k52_21_44 rfl ?_
  exact w_retI X k52_21_46 ⟨rfl, A3, K5⟩ (by decide) (by decide)
theorem m_c3_3 (hw : own_hw a0 Z) {h0 : Heap} {a : Addr} {c0 c1 c2 : Int32} (Aa : Ary Z h0 a .char [(.int c0), (.int c1), (.int c2)]) (l0 : ¬ (255 : Int32) < c0) (l1 : ¬ (255 : Int32) < c1) (l2 : ¬ (255 : Int32) < c2) :
    Does l Z n0 ⟨"java/lang/StringUTF16", "compress", "([CII)[B"⟩ jdk_52_method_16_code 6 (some (.array .byte)) [] { frames := 1, cells := 1, slots := 3, locals := 18 } #[(.ref a), (.int 0), (.int 3)] h0 (fun v h => ∃ t, v = some (.ref t) ∧ h0.size ≤ t ∧ n0 ≤ t ∧ Ary Z h t .byte [(.int (c0.toInt8.toInt32)), (.int (c1.toInt8.toInt32)), (.int (c2.toInt8.toInt32))] ∧ Keep h0 h []) := by
  refine Does.start (plainFor_of_name pn_2) ?_
  intro p e s m below meth c T X
  replace X : Sd _ _ _ _ _ "java/lang/StringUTF16" "compress" _ _ _ _ _ _ _ _ _ _ _ _ _ _ _ _ := X
  refine Wp.cast (g' := mkF m 0 #[.val (.ref a), .val (.int 0), .val (.int 3), .unset, .unset, .unset] []) (by first | (simp [entryFrame, mkF, argsToLocals, Value.category, maxLocals]; done) | rfl) ?_
  refine w_iloadN X k52_16_0 rfl ?_
  refine w_newarr X k52_16_1 (wd_22 hw) 3 3 (by decide) (by decide) (by decide) (by decide) (by decide) (by decide) (fun T h1 b1 g1 gn1 X E1 A1 => ?_)
  replace A1 : Ary Z h1 b1 .byte [(.int 0), (.int 0), (.int 0)] := A1
  have sz_b1 : h0.size ≤ b1 := Nat.le_trans (Keep.refl h0 []).1 (Nat.le_of_eq g1.symm)
  have K1 : Keep h0 h1 [] := (Keep.refl h0 []).ext E1
  refine w_astoreN X #[.val (.ref a), .val (.int 0), .val (.int 3), .val (.ref b1), .unset, .unset] k52_16_3 (rfl) rfl ?_
  refine w_aloadN X k52_16_4 rfl (rfl) ?_
  refine w_iloadN X k52_16_5 rfl ?_
  refine w_aloadN X k52_16_6 rfl (rfl) ?_
  refine w_iconst X (0 : Int32) k52_16_7 rfl ?_
  refine w_iloadN X k52_16_8 rfl ?_
  have f2 := (Aa.ext E1)
  refine w_callS X k52_16_9 (wd_287 hw) (wd_288 hw) (wd_285 hw) (wd_289 hw) (by decide) (argsL := [(.ref a), (.int 0), (.ref b1), (.int 0), (.int 3)]) (S := []) (m_c5_3 hw f2 A1 gn1 (nel (ltl Aa.lt (Nat.le_of_eq g1.symm))) l0 l1 l2) pd_1 rfl rfl rfl (by decide) (leR rfl) (by decide) (by decide) (fun T h2 v2 L2 X q2 => ?_)
  obtain ⟨rfl, Ac2, Kc2⟩ := q2
  have K3 : Keep h0 h2 [] := K1.trans Kc2 (fun x hx => by cases List.mem_singleton.mp hx; exact (Or.inr sz_b1))
  show Wp _ _ _ _ (T.setTop (mkF _ _ _ [(.int 3)]))
  refine w_istore X #[.val (.ref a), .val (.int 0), .val (.int 3), .val (.ref b1), .val (.int 3), .unset] k52_16_12 rfl ?_
  refine w_iload X k52_16_14 rfl ?_
  refine w_iloadN X k52_16_16 rfl ?_
  refine w_icmpeq X k52_16_17 (fun _ => ?_) (fun hc => absurd rfl hc)
  refine w_aloadN X k52_16_57 rfl (rfl) ?_
  exact w_retR X rfl (rfl) rfl k52_16_58 ⟨_, rfl, sz_b1, gn1, Ac2, K3⟩ (by decide) (by decide)
theorem m_cfal_3 (hw : own_hw a0 Z) {h0 : Heap} {a : Addr} {v0 v1 v2 : Value} (Aa : Ary Z h0 a .byte [v0, v1, v2]) :
    Does l Z n0 ⟨"java/lang/StringUTF16", "coderFromArrayLen", "([BI)B"⟩ jdk_52_method_15_code 2 (some .byte) [] { frames := 0, cells := 0, slots := 0, locals := 0 } #[(.ref a), (.int 3)] h0 (fun v h => v = some (.int 0) ∧ h0 = h) := by
  refine Does.start (plainFor_of_name pn_2) ?_
  intro p e s m below meth c T X
  replace X : Sd _ _ _ _ _ "java/lang/StringUTF16" "coderFromArrayLen" _ _ _ _ _ _ _ _ _ _ _ _ _ _ _ _ := X
  refine Wp.cast (g' := mkF m 0 #[.val (.ref a), .val (.int 3)] []) (by first | (simp [entryFrame, mkF, argsToLocals, Value.category, maxLocals]; done) | rfl) ?_
  refine w_iloadN X k52_15_0 rfl ?_
  refine w_aloadN X k52_15_1 rfl (rfl) ?_
  refine w_arrlen X (3 : Int32) k52_15_2 Aa rfl ?_
  refine w_isub X k52_15_3 ?_
  refine w_bipush X (31 : Int32) k52_15_4 rfl ?_
  refine w_iushr X k52_15_6 ?_
  refine w_i2b X k52_15_7 ?_
  exact w_ret_byte X (0 : Int32) (by decide) k52_15_8 ⟨rfl, rfl⟩ (by decide) (by decide)
theorem m_si4_3 (hw : own_hw a0 Z) {h0 : Heap} {zc : Int32} {fm : Value} {a b : Addr} {c0 c1 c2 : Int32} (hS : own_S Z zc fm) (ga : n0 ≤ a) (Ea : Exa Z h0 a "java/lang/String") (Va : Fld Z h0 a "java/lang/String" "value" "[B" .null) (Ca : Fld Z h0 a "java/lang/String" "coder" "B" (.int 0)) (Ab : Ary Z h0 b .char [(.int c0), (.int c1), (.int c2)]) (l0 : ¬ (255 : Int32) < c0) (l1 : ¬ (255 : Int32) < c1) (l2 : ¬ (255 : Int32) < c2) :
    Does l Z n0 ⟨"java/lang/String", "<init>", "([CIILjava/lang/Void;)V"⟩ jdk_42_method_149_code 6 none [] { frames := 2, cells := 1, slots := 3, locals := 35 } #[(.ref a), (.ref b), (.int 0), (.int 3), .null] h0 (fun v h => v = none ∧ Exa Z h a "java/lang/String" ∧ Fld Z h a "java/lang/String" "coder" "B" (.int 0) ∧ Keep h0 h [a] ∧ ∃ t, h0.size ≤ t ∧ n0 ≤ t ∧ Fld Z h a "java/lang/String" "value" "[B" (.ref t) ∧ Ary Z h t .byte [(.int (c0.toInt8.toInt32)), (.int (c1.toInt8.toInt32)), (.int (c2.toInt8.toInt32))]) := by
  refine Does.start (plainFor_of_name pn_0) ?_
  obtain ⟨S_zc, hzc, S_fm, hfm⟩ := id hS
  intro p e s m below meth c T X
  replace X : Sd _ _ _ _ _ "java/lang/String" "<init>" _ _ _ _ _ _ _ _ _ _ _ _ _ _ _ _ := X
  refine Wp.cast (g' := mkF m 0 #[.val (.ref a), .val (.ref b), .val (.int 0), .val (.int 3), .val .null, .unset] []) (by first | (simp [entryFrame, mkF, argsToLocals, Value.category, maxLocals]; done) | rfl) ?_
  refine w_aloadN X k42_149_0 rfl (rfl) ?_
  refine w_initO X k42_149_1 (wd_18 hw) (wd_19 hw) (wd_20 hw) rfl (by decide) (leR rfl) (fun T X => ?_)
  refine w_iloadN X k42_149_4 rfl ?_
  refine w_ifne X k42_149_5 (fun _ => ?_) (fun hc => absurd hc (by decide))
  refine w_getS X k42_149_27 (host := "") (Or.inl (wd_77 hw)) Via.refl (S_zc.ext X.old.2) (fun T X => ?_)
  refine w_ifeq X k42_149_30 (fun hc => absurd hc hzc) (fun _ => ?_)
  refine w_aloadN X k42_149_33 rfl (rfl) ?_
  refine w_iloadN X k42_149_34 rfl ?_
  refine w_iloadN X k42_149_35 rfl ?_
  refine w_callS X k42_149_36 (wd_283 hw) (wd_284 hw) (wd_285 hw) (wd_286 hw) (by decide) (argsL := [(.ref b), (.int 0), (.int 3)]) (S := []) (m_c3_3 hw Ab l0 l1 l2) pd_2 rfl rfl rfl (by decide) (leR rfl) (by decide) (by decide) (fun T h1 v1 L1 X q1 => ?_)
  obtain ⟨t1, rfl, gt1, gn1, At1, Kc1⟩ := q1
  have K1 : Keep h0 h1 [a] := (Keep.refl h0 [a]).trans Kc1 (fun x hx => nomatch hx)
  have sz_t1 : h0.size ≤ t1 := Nat.le_trans (Keep.refl h0 [a]).1 gt1
  show Wp _ _ _ _ (T.setTop (mkF _ _ _ [(.ref t1)]))
  refine w_astore X #[.val (.ref a), .val (.ref b), .val (.int 0), .val (.int 3), .val .null, .val (.ref t1)] k42_149_39 (rfl) rfl ?_
  refine w_aloadN X k42_149_41 rfl (rfl) ?_
  refine w_aload X k42_149_42 rfl (rfl) ?_
  refine w_iloadN X k42_149_44 rfl ?_
  refine w_callS X k42_149_45 (wd_290 hw) (wd_291 hw) (wd_285 hw) (wd_292 hw) (by decide) (argsL := [(.ref t1), (.int 3)]) (S := [(.ref a)]) (m_cfal_3 hw At1) pd_3 rfl rfl rfl (by decide) (leR rfl) (by decide) (by decide) (fun T h2 v2 L2 X q2 => ?_)
  obtain ⟨rfl, rfl⟩ := q2
  show Wp _ _ _ _ (T.setTop (mkF _ _ _ [(.int 0), (.ref a)]))
  have f2 := (Ea.keep Kc1)
  have f3 := (Ca.keep Kc1 (List.not_mem_nil))
  refine w_putFN X k42_149_48 (wd_28 hw) Via.refl f3 f2 (Or.inr ⟨(wd_24 hw), rfl, rfl⟩) (wd_8 hw) (ty := .byte) (by decide) (.int 0) rfl (by decide) ga (fun T h3 X W3 => ?_)
  have f4 := f3.same W3
  have K5 : Keep h0 h3 [a] := K1.wr W3 (Or.inl (List.mem_of_getElem? (i := 0) rfl))
  refine w_aloadN X k42_149_51 rfl (rfl) ?_
  refine w_aload X k42_149_52 rfl (rfl) ?_
  have f6 := (f2.wr W3)
  have f7 := ((Va.keep Kc1 (List.not_mem_nil)).other W3 (Or.inr (slot_ne (Or.inr (wd_23 hw)) (Or.inr (wd_24 hw)) (by decide) (t := (.array .byte)) (t' := .byte) (by decide) (by decide))))
  refine w_putF X k42_149_54 (host := "") (Or.inl (wd_27 hw)) Via.refl f7 f6 (Or.inr ⟨(wd_23 hw), rfl, rfl⟩) (wd_8 hw) (ty := (.array .byte)) (by decide) rfl rfl ga (fun T h4 X W4 => ?_)
  have f8 := f7.same W4
  have K9 : Keep h0 h4 [a] := K5.wr W4 (Or.inl (List.mem_of_getElem? (i := 0) rfl))
  have f10 := (f6.wr W4)
  have f11 := (f4.other W4 (Or.inr (slot_ne (Or.inr (wd_24 hw)) (Or.inr (wd_23 hw)) (by decide) (t := .byte) (t' := (.array .byte)) (by decide) (by decide))))
  have f12 := ((At1.other W3 (Ne.symm (nel (ltl Ea.lt gt1)))).other W4 (Ne.symm (nel (ltl Ea.lt gt1))))
  exact w_retV X k42_149_57 ⟨rfl, f10, f11, K9, _, sz_t1, gn1, f8, f12⟩ (by decide) (by decide)
theorem m_si_3 (hw : own_hw a0 Z) {h0 : Heap} {zc : Int32} {fm : Value} {a b : Addr} {c0 c1 c2 : Int32} (hS : own_S Z zc fm) (ga : n0 ≤ a) (Ea : Exa Z h0 a "java/lang/String") (Va : Fld Z h0 a "java/lang/String" "value" "[B" .null) (Ca : Fld Z h0 a "java/lang/String" "coder" "B" (.int 0)) (Ab : Ary Z h0 b .char [(.int c0), (.int c1), (.int c2)]) (l0 : ¬ (255 : Int32) < c0) (l1 : ¬ (255 : Int32) < c1) (l2 : ¬ (255 : Int32) < c2) :
    Does l Z n0 ⟨"java/lang/String", "<init>", "([C)V"⟩ jdk_42_method_3_code 2 none [] { frames := 3, cells := 1, slots := 3, locals := 52 } #[(.ref a), (.ref b)] h0 (fun v h => v = none ∧ Exa Z h a "java/lang/String" ∧ Fld Z h a "java/lang/String" "coder" "B" (.int 0) ∧ Keep h0 h [a] ∧ ∃ t, h0.size ≤ t ∧ n0 ≤ t ∧ Fld Z h a "java/lang/String" "value" "[B" (.ref t) ∧ Ary Z h t .byte [(.int (c0.toInt8.toInt32)), (.int (c1.toInt8.toInt32)), (.int (c2.toInt8.toInt32))]) := by
  refine Does.start (plainFor_of_name pn_0) ?_
  obtain ⟨S_zc, hzc, S_fm, hfm⟩ := id hS
  intro p e s m below meth c T X
  replace X : Sd _ _ _ _ _ "java/lang/String" "<init>" _ _ _ _ _ _ _ _ _ _ _ _ _ _ _ _ := X
  refine Wp.cast (g' := mkF m 0 #[.val (.ref a), .val (.ref b)] []) (by first | (simp [entryFrame, mkF, argsToLocals, Value.category, maxLocals]; done) | rfl) ?_
  refine w_aloadN X k42_3_0 rfl (rfl) ?_
  refine w_aloadN X k42_3_1 rfl (rfl) ?_
  refine w_iconst X (0 : Int32) k42_3_2 rfl ?_
  refine w_aloadN X k42_3_3 rfl (rfl) ?_
  refine w_arrlen X (3 : Int32) k42_3_4 Ab rfl ?_
  refine w_aconstNull X k42_3_5 ?_
  refine w_callI X k42_3_6 rfl (wd_14 hw) (wd_15 hw) (wd_9 hw) (wd_17 hw) (by decide) (argsL := [(.ref b), (.int 0), (.int 3), .null]) (S := []) (m_si4_3 hw hS ga Ea Va Ca Ab l0 l1 l2) pd_0 rfl rfl rfl (by decide) (leR rfl) (by decide) (by decide) (fun T h1 v1 L1 X q1 => ?_)
  obtain ⟨rfl, r1⟩ := q1
  show Wp _ _ _ _ (T.setTop (mkF _ _ _ []))
  exact w_retV X k42_3_9 ⟨rfl, r1⟩ (by decide) (by decide)
theorem m_enc (hw : own_hw a0 Z) {h0 : Heap} {c0 : Int32} (l0 : ¬ (255 : Int32) < c0) :
    Does l Z n0 ⟨"java/lang/StringLatin1", "canEncode", "(C)Z"⟩ jdk_43_method_3_code 1 (some .boolean) [] { frames := 0, cells := 0, slots := 0, locals := 0 } #[(.int c0)] h0 (fun v h => v = some (.int 1) ∧ h0 = h) := by
  refine Does.start (plainFor_of_name pn_3) ?_
  intro p e s m below meth c T X
  replace X : Sd _ _ _ _ _ "java/lang/StringLatin1" "canEncode" _ _ _ _ _ _ _ _ _ _ _ _ _ _ _ _ := X
  refine Wp.cast (g' := mkF m 0 #[.val (.int c0)] []) (by first | (simp [entryFrame, mkF, argsToLocals, Value.category, maxLocals]; done) | rfl) ?_
  refine w_iloadN X k43_3_0 rfl ?_
  refine w_sipush X (255 : Int32) k43_3_1 rfl ?_
  refine w_icmpgt X k43_3_4 (fun hc => absurd hc l0) (fun _ => ?_)
  refine w_iconst X (1 : Int32) k43_3_7 rfl ?_
  refine w_goto X k43_3_8 ?_
  exact w_ret_boolean X (1 : Int32) (by decide) k43_3_12 ⟨rfl, rfl⟩ (by decide) (by decide)
theorem m_tob (hw : own_hw a0 Z) {h0 : Heap} {c0 : Int32}  :
    Does l Z n0 ⟨"java/lang/StringLatin1", "toBytes", "(C)[B"⟩ jdk_43_method_46_code 1 (some (.array .byte)) [] { frames := 0, cells := 1, slots := 1, locals := 0 } #[(.int c0)] h0 (fun v h => ∃ t, v = some (.ref t) ∧ h0.size ≤ t ∧ n0 ≤ t ∧ Ary Z h t .byte [(.int (c0.toInt8.toInt32))] ∧ Keep h0 h []) := by
  refine Does.start (plainFor_of_name pn_3) ?_
  intro p e s m below meth c T X
  replace X : Sd _ _ _ _ _ "java/lang/StringLatin1" "toBytes" _ _ _ _ _ _ _ _ _ _ _ _ _ _ _ _ := X
  refine Wp.cast (g' := mkF m 0 #[.val (.int c0)] []) (by first | (simp [entryFrame, mkF, argsToLocals, Value.category, maxLocals]; done) | rfl) ?_
  refine w_iconst X (1 : Int32) k43_46_0 rfl ?_
  refine w_newarr X k43_46_1 (wd_22 hw) 1 1 (by decide) (by decide) (by decide) (by decide) (by decide) (by decide) (fun T h1 b1 g1 gn1 X E1 A1 => ?_)
  replace A1 : Ary Z h1 b1 .byte [(.int 0)] := A1
  have sz_b1 : h0.size ≤ b1 := Nat.le_trans (Keep.refl h0 []).1 (Nat.le_of_eq g1.symm)
  have K1 : Keep h0 h1 [] := (Keep.refl h0 []).ext E1
  refine w_dup X k43_46_3 rfl ?_
  refine w_iconst X (0 : Int32) k43_46_4 rfl ?_
  refine w_iloadN X k43_46_5 rfl ?_
  refine w_i2b X k43_46_6 ?_
  refine w_bastore X k43_46_7 A1 (by decide) rfl gn1 (.int (c0.toInt8.toInt32)) (congrArg Value.int (own_nar_b _)) [(.int (c0.toInt8.toInt32))] rfl (fun T h2 X W2 A2 => ?_)
  have K2 : Keep h0 h2 [] := K1.wr W2 (Or.inr sz_b1)
  exact w_retR X rfl (rfl) rfl k43_46_8 ⟨_, rfl, sz_b1, gn1, A2, K2⟩ (by decide) (by decide)
theorem m_sib (hw : own_hw a0 Z) {h0 : Heap} {a b : Addr} (ga : n0 ≤ a) (Ea : Exa Z h0 a "java/lang/String") (Va : Fld Z h0 a "java/lang/String" "value" "[B" .null) (Ca : Fld Z h0 a "java/lang/String" "coder" "B" (.int 0)) :
    Does l Z n0 ⟨"java/lang/String", "<init>", "([BB)V"⟩ jdk_42_method_151_code 3 none [] { frames := 1, cells := 0, slots := 0, locals := 12 } #[(.ref a), (.ref b), (.int 0)] h0 (fun v h => v = none ∧ Exa Z h a "java/lang/String" ∧ Fld Z h a "java/lang/String" "coder" "B" (.int 0) ∧ Fld Z h a "java/lang/String" "value" "[B" (.ref b) ∧ Keep h0 h [a]) := by
  refine Does.start (plainFor_of_name pn_0) ?_
  intro p e s m below meth c T X
  replace X : Sd _ _ _ _ _ "java/lang/String" "<init>" _ _ _ _ _ _ _ _ _ _ _ _ _ _ _ _ := X
  refine Wp.cast (g' := mkF m 0 #[.val (.ref a), .val (.ref b), .val (.int 0)] []) (by first | (simp [entryFrame, mkF, argsToLocals, Value.category, maxLocals]; done) | rfl) ?_
  refine w_aloadN X k42_151_0 rfl (rfl) ?_
  refine w_initO X k42_151_1 (wd_18 hw) (wd_19 hw) (wd_20 hw) rfl (by decide) (leR rfl) (fun T X => ?_)
  refine w_aloadN X k42_151_4 rfl (rfl) ?_
  refine w_aloadN X k42_151_5 rfl (rfl) ?_
  refine w_putF X k42_151_6 (host := "") (Or.inl (wd_27 hw)) Via.refl Va Ea (Or.inr ⟨(wd_23 hw), rfl, rfl⟩) (wd_8 hw) (ty := (.array .byte)) (by decide) rfl rfl ga (fun T h1 X W1 => ?_)
  have f1 := Va.same W1
  have K2 : Keep h0 h1 [a] := (Keep.refl h0 [a]).wr W1 (Or.inl (List.mem_of_getElem? (i := 0) rfl))
  refine w_aloadN X k42_151_9 rfl (rfl) ?_
  refine w_iloadN X k42_151_10 rfl ?_
  have f3 := (Ea.wr W1)
  have f4 := (Ca.other W1 (Or.inr (slot_ne (Or.inr (wd_24 hw)) (Or.inr (wd_23 hw)) (by decide) (t := .byte) (t' := (.array .byte)) (by decide) (by decide))))
  refine w_putFN X k42_151_11 (wd_28 hw) Via.refl f4 f3 (Or.inr ⟨(wd_24 hw), rfl, rfl⟩) (wd_8 hw) (ty := .byte) (by decide) (.int 0) rfl (by decide) ga (fun T h2 X W2 => ?_)
  have f5 := f4.same W2
  have K6 : Keep h0 h2 [a] := K2.wr W2 (Or.inl (List.mem_of_getElem? (i := 0) rfl))
  have f7 := (f3.wr W2)
  have f8 := (f1.other W2 (Or.inr (slot_ne (Or.inr (wd_23 hw)) (Or.inr (wd_24 hw)) (by decide) (t := (.array .byte)) (t' := .byte) (by decide) (by decide))))
  exact w_retV X k42_151_14 ⟨rfl, f7, f5, f8, K6⟩ (by decide) (by decide)
theorem m_vof (hw : own_hw a0 Z) {h0 : Heap} {zc : Int32} {fm : Value} {c0 : Int32} (hS : own_S Z zc fm) (l0 : ¬ (255 : Int32) < c0) :
    Does l Z n0 ⟨"java/lang/String", "valueOf", "(C)Ljava/lang/String;"⟩ jdk_42_method_139_code 1 (some (.object "java/lang/String")) [] { frames := 2, cells := 2, slots := 5, locals := 27 } #[(.int c0)] h0 (fun v h => ∃ a t, v = some (.ref a) ∧ h0.size ≤ a ∧ n0 ≤ a ∧ h0.size ≤ t ∧ n0 ≤ t ∧ Exa Z h a "java/lang/String" ∧ Fld Z h a "java/lang/String" "coder" "B" (.int 0) ∧ Fld Z h a "java/lang/String" "value" "[B" (.ref t) ∧ Ary Z h t .byte [(.int (c0.toInt8.toInt32))] ∧ Keep h0 h []) := by
  refine Does.start (plainFor_of_name pn_0) ?_
  obtain ⟨S_zc, hzc, S_fm, hfm⟩ := id hS
  intro p e s m below meth c T X
  replace X : Sd _ _ _ _ _ "java/lang/String" "valueOf" _ _ _ _ _ _ _ _ _ _ _ _ _ _ _ _ := X
  refine Wp.cast (g' := mkF m 0 #[.val (.int c0)] []) (by first | (simp [entryFrame, mkF, argsToLocals, Value.category, maxLocals]; done) | rfl) ?_
  refine w_getS X k42_139_0 (host := "") (Or.inl (wd_77 hw)) Via.refl (S_zc.ext X.old.2) (fun T X => ?_)
  refine w_ifeq X k42_139_3 (fun hc => absurd hc hzc) (fun _ => ?_)
  refine w_iloadN X k42_139_6 rfl ?_
  refine w_callS X k42_139_7 (wd_245 hw) (wd_246 hw) (wd_228 hw) (wd_247 hw) (by decide) (argsL := [(.int c0)]) (S := []) (m_enc hw l0) pd_4 rfl rfl rfl (by decide) (leR rfl) (by decide) (by decide) (fun T h1 v1 L1 X q1 => ?_)
  obtain ⟨rfl, rfl⟩ := q1
  show Wp _ _ _ _ (T.setTop (mkF _ _ _ [(.int 1)]))
  refine w_ifeq X k42_139_10 (fun hc => absurd hc (by decide)) (fun _ => ?_)
  refine w_new X k42_139_13 (wd_248 hw) (wd_8 hw) (wd_9 hw) (by decide) (by decide) (fun T h2 b2 g2 gn2 X E2 A2 D2 => ?_)
  have sz_b2 : h0.size ≤ b2 := Nat.le_trans (Keep.refl h0 []).1 (Nat.le_of_eq g2.symm)
  have K1 : Keep h0 h2 [] := (Keep.refl h0 []).ext E2
  refine w_dup X k42_139_16 rfl ?_
  refine w_iloadN X k42_139_17 rfl ?_
  refine w_callS X k42_139_18 (wd_249 hw) (wd_250 hw) (wd_228 hw) (wd_251 hw) (by decide) (argsL := [(.int c0)]) (S := [(.ref b2), (.ref b2)]) (m_tob hw (c0 := c0)) pd_5 rfl rfl rfl (by decide) (leR rfl) (by decide) (by decide) (fun T h3 v3 L3 X q3 => ?_)
  obtain ⟨t3, rfl, gt3, gn3, At3, Kc3⟩ := q3
  have K2 : Keep h0 h3 [] := K1.trans Kc3 (fun x hx => nomatch hx)
  have sz_t3 : h0.size ≤ t3 := Nat.le_trans K1.1 gt3
  show Wp _ _ _ _ (T.setTop (mkF _ _ _ [(.ref t3), (.ref b2), (.ref b2)]))
  refine w_iconst X (0 : Int32) k42_139_21 rfl ?_
  have f3 := (A2.keep Kc3)
  have f4 := ((show Fld Z h2 b2 "java/lang/String" "value" "[B" .null from D2 (Or.inr (wd_23 hw)) (ty := (.array .byte)) (by decide)).keep Kc3 (List.not_mem_nil))
  have f5 := ((show Fld Z h2 b2 "java/lang/String" "coder" "B" (.int 0) from D2 (Or.inr (wd_24 hw)) (ty := .byte) (by decide)).keep Kc3 (List.not_mem_nil))
  refine w_callI X k42_139_22 rfl (wd_252 hw) (wd_253 hw) (wd_9 hw) (wd_254 hw) (by decide) (argsL := [(.ref t3), (.int 0)]) (S := [(.ref b2)]) (m_sib hw gn2 f3 f4 f5) pd_6 rfl rfl rfl (by decide) (leR rfl) (by decide) (by decide) (fun T h4 v4 L4 X q4 => ?_)
  obtain ⟨rfl, Ex4, Cx4, Vx4, Kc4⟩ := q4
  have K6 : Keep h0 h4 [] := K2.trans Kc4 (fun x hx => by cases List.mem_singleton.mp hx; exact (Or.inr sz_b2))
  show Wp _ _ _ _ (T.setTop (mkF _ _ _ [(.ref b2)]))
  have f7 := (At3.keep Kc4 (ni1 (Ne.symm (nel (ltl A2.lt gt3)))))
  exact w_retR X rfl (rfl) rfl k42_139_25 ⟨_, _, rfl, sz_b2, gn2, sz_t3, gn3, Ex4, Cx4, Vx4, f7, K6⟩ (by decide) (by decide)
theorem m_pick_0 (hw : own_hw a0 Z) {h0 : Heap} {zc : Int32} {fm : Value} {x c0 c1 c2 : Int32} (hS : own_S Z zc fm) (hheld : ∀ p ∈ consts_1, Jvm.Lit.constHeld Z p.1 p.2) (hcw : Jvm.Lit.compactW.before a0 Z = true) (hx : x = (0 : Int32)) (l0 : ¬ (255 : Int32) < c0) (nc0 : nar .char c0 = c0) (l1 : ¬ (255 : Int32) < c1) (nc1 : nar .char c1 = c1) (l2 : ¬ (255 : Int32) < c2) (nc2 : nar .char c2 = c2) :
    DoesG l Z n0 (own_G Z h0) ⟨"com/example/inflow/inflow/model/DeploymentExceptionForDescriptorPinLaw", "pick", "(CCCI)Ljava/lang/String;"⟩ method_4_code 4 (some (.object "java/lang/String")) [] { frames := 4, cells := 4, slots := 10, locals := 66 } #[(.int c0), (.int c1), (.int c2), (.int x)] h0 (fun v h vm => ∃ a t, v = some (.ref a) ∧ Lat Z h a t (0 : Int32) [] ∧ Keep h0 h [] ∧ own_G Z h vm) := by
  refine DoesG.start (plainFor_of_name pn_1) ?_
  obtain ⟨S_zc, hzc, S_fm, hfm⟩ := id hS
  intro p e s m below meth c T X Y hs0 Gs
  replace X : Sd _ _ _ _ _ "com/example/inflow/inflow/model/DeploymentExceptionForDescriptorPinLaw" "pick" _ _ _ _ _ _ _ _ _ _ _ _ _ _ _ _ := X
  refine Wp.cast (g' := mkF m 0 #[.val (.int c0), .val (.int c1), .val (.int c2), .val (.int x)] []) (by first | (simp [entryFrame, mkF, argsToLocals, Value.category, maxLocals]; done) | rfl) ?_
  refine w_iloadN X d4_0 rfl ?_
  refine w_ifne X d4_1 (fun hc => absurd hx hc) (fun _ => ?_)
  refine w_new X d4_4 (wd_7 hw) (wd_8 hw) (wd_9 hw) (by decide) (by decide) (fun T h1 b1 g1 gn1 X E1 A1 D1 => ?_)
  have sz_b1 : h0.size ≤ b1 := Nat.le_trans (Keep.refl h0 []).1 (Nat.le_of_eq g1.symm)
  have K1 : Keep h0 h1 [] := (Keep.refl h0 []).ext E1
  refine w_dup X d4_7 rfl ?_
  refine w_iconst X (0 : Int32) d4_8 rfl ?_
  refine w_newarr X d4_9 (wd_10 hw) 0 0 (by decide) (by decide) (by decide) (by decide) (by decide) (by decide) (fun T h2 b2 g2 gn2 X E2 A2 => ?_)
  replace A2 : Ary Z h2 b2 .char [] := A2
  have sz_b2 : h0.size ≤ b2 := Nat.le_trans K1.1 (Nat.le_of_eq g2.symm)
  have K2 : Keep h0 h2 [] := K1.ext E2
  have f3 := (A1.ext E2)
  have f4 := ((show Fld Z h1 b1 "java/lang/String" "value" "[B" .null from D1 (Or.inr (wd_23 hw)) (ty := (.array .byte)) (by decide)).ext E2)
  have f5 := ((show Fld Z h1 b1 "java/lang/String" "coder" "B" (.int 0) from D1 (Or.inr (wd_24 hw)) (ty := .byte) (by decide)).ext E2)
  refine g_callI X Y (fun vm' hW => ((Gs.ext E1).ext E2).warm hW) d4_11 rfl (wd_11 hw) (wd_12 hw) (wd_9 hw) (wd_13 hw) (by decide) (argsL := [(.ref b2)]) (S := [(.ref b1)]) (m_x1 hw hS gn1 f3 f4 f5 hheld hcw A2) pd_7 rfl rfl rfl (by decide) (leR rfl) (by decide) (by decide) (fun T h3 v3 L3 u kk X Y q3 => ?_)
  obtain ⟨rfl, Kc3, M3, t3, Tx3⟩ := q3
  have K6 : Keep h0 h3 [] := K2.trans Kc3 (fun x hx => by cases List.mem_singleton.mp hx; exact (Or.inr sz_b1))
  show Wp _ _ _ _ (T.setTop (mkF _ _ _ [(.ref b1)]))
  exact g_retR X Y rfl (rfl) rfl d4_14 (fun vm' hW => ⟨_, _, rfl, Tx3, K6, M3.warm hW⟩) (by decide) (by decide)
theorem m_pick_1 (hw : own_hw a0 Z) {h0 : Heap} {zc : Int32} {fm : Value} {x c0 c1 c2 : Int32} (hS : own_S Z zc fm) (hheld : ∀ p ∈ consts_1, Jvm.Lit.constHeld Z p.1 p.2) (hcw : Jvm.Lit.compactW.before a0 Z = true) (hx : x = (1 : Int32)) (l0 : ¬ (255 : Int32) < c0) (nc0 : nar .char c0 = c0) (l1 : ¬ (255 : Int32) < c1) (nc1 : nar .char c1 = c1) (l2 : ¬ (255 : Int32) < c2) (nc2 : nar .char c2 = c2) :
    DoesG l Z n0 (own_G Z h0) ⟨"com/example/inflow/inflow/model/DeploymentExceptionForDescriptorPinLaw", "pick", "(CCCI)Ljava/lang/String;"⟩ method_4_code 4 (some (.object "java/lang/String")) [] { frames := 4, cells := 4, slots := 10, locals := 66 } #[(.int c0), (.int c1), (.int c2), (.int x)] h0 (fun v h vm => ∃ a t, v = some (.ref a) ∧ Lat Z h a t (0 : Int32) [(.int (c0.toInt8.toInt32))] ∧ Keep h0 h [] ∧ own_G Z h vm) := by
  refine DoesG.start (plainFor_of_name pn_1) ?_
  obtain ⟨S_zc, hzc, S_fm, hfm⟩ := id hS
  intro p e s m below meth c T X Y hs0 Gs
  replace X : Sd _ _ _ _ _ "com/example/inflow/inflow/model/DeploymentExceptionForDescriptorPinLaw" "pick" _ _ _ _ _ _ _ _ _ _ _ _ _ _ _ _ := X
  refine Wp.cast (g' := mkF m 0 #[.val (.int c0), .val (.int c1), .val (.int c2), .val (.int x)] []) (by first | (simp [entryFrame, mkF, argsToLocals, Value.category, maxLocals]; done) | rfl) ?_
  refine w_iloadN X d4_0 rfl ?_
  refine w_ifne X d4_1 (fun _ => ?_) (fun hc => absurd hc (by rw [hx]; decide))
  refine w_iloadN X d4_15 rfl ?_
  refine w_iconst X (1 : Int32) d4_16 rfl ?_
  refine w_icmpne X d4_17 (fun hc => absurd hx hc) (fun _ => ?_)
  refine w_iloadN X d4_20 rfl ?_
  refine w_callS X d4_21 (wd_242 hw) (wd_243 hw) (wd_9 hw) (wd_244 hw) (by decide) (argsL := [(.int c0)]) (S := []) (m_vof hw (c0 := c0) hS l0) pd_8 rfl rfl rfl (by decide) (leR rfl) (by decide) (by decide) (fun T h1 v1 L1 X q1 => ?_)
  obtain ⟨a1, t1, rfl, gta1, gna1, gt1, gn1, Ex1, Cx1, Vx1, At1, Kc1⟩ := q1
  have K1 : Keep h0 h1 [] := (Keep.refl h0 []).trans Kc1 (fun x hx => nomatch hx)
  have sz_t1 : h0.size ≤ t1 := Nat.le_trans (Keep.refl h0 []).1 gt1
  have sz_a1 : h0.size ≤ a1 := Nat.le_trans (Keep.refl h0 []).1 gta1
  show Wp _ _ _ _ (T.setTop (mkF _ _ _ [(.ref a1)]))
  exact g_retR X Y rfl (rfl) rfl d4_24 (fun vm' hW => ⟨_, _, rfl, ⟨Ex1, Cx1, Vx1, At1⟩, K1, (Gs.warm hW).keep K1⟩) (by decide) (by decide)
theorem m_pick_2 (hw : own_hw a0 Z) {h0 : Heap} {zc : Int32} {fm : Value} {x c0 c1 c2 : Int32} (hS : own_S Z zc fm) (hheld : ∀ p ∈ consts_1, Jvm.Lit.constHeld Z p.1 p.2) (hcw : Jvm.Lit.compactW.before a0 Z = true) (hx : x = (2 : Int32)) (l0 : ¬ (255 : Int32) < c0) (nc0 : nar .char c0 = c0) (l1 : ¬ (255 : Int32) < c1) (nc1 : nar .char c1 = c1) (l2 : ¬ (255 : Int32) < c2) (nc2 : nar .char c2 = c2) :
    DoesG l Z n0 (own_G Z h0) ⟨"com/example/inflow/inflow/model/DeploymentExceptionForDescriptorPinLaw", "pick", "(CCCI)Ljava/lang/String;"⟩ method_4_code 4 (some (.object "java/lang/String")) [] { frames := 4, cells := 4, slots := 10, locals := 66 } #[(.int c0), (.int c1), (.int c2), (.int x)] h0 (fun v h vm => ∃ a t, v = some (.ref a) ∧ Lat Z h a t (0 : Int32) [(.int (c0.toInt8.toInt32)), (.int (c1.toInt8.toInt32))] ∧ Keep h0 h [] ∧ own_G Z h vm) := by
  refine DoesG.start (plainFor_of_name pn_1) ?_
  obtain ⟨S_zc, hzc, S_fm, hfm⟩ := id hS
  intro p e s m below meth c T X Y hs0 Gs
  replace X : Sd _ _ _ _ _ "com/example/inflow/inflow/model/DeploymentExceptionForDescriptorPinLaw" "pick" _ _ _ _ _ _ _ _ _ _ _ _ _ _ _ _ := X
  refine Wp.cast (g' := mkF m 0 #[.val (.int c0), .val (.int c1), .val (.int c2), .val (.int x)] []) (by first | (simp [entryFrame, mkF, argsToLocals, Value.category, maxLocals]; done) | rfl) ?_
  refine w_iloadN X d4_0 rfl ?_
  refine w_ifne X d4_1 (fun _ => ?_) (fun hc => absurd hc (by rw [hx]; decide))
  refine w_iloadN X d4_15 rfl ?_
  refine w_iconst X (1 : Int32) d4_16 rfl ?_
  refine w_icmpne X d4_17 (fun _ => ?_) (fun hc => absurd hc (by rw [hx]; decide))
  refine w_iloadN X d4_25 rfl ?_
  refine w_iconst X (2 : Int32) d4_26 rfl ?_
  refine w_icmpne X d4_27 (fun hc => absurd hx hc) (fun _ => ?_)
  refine w_new X d4_30 (wd_7 hw) (wd_8 hw) (wd_9 hw) (by decide) (by decide) (fun T h1 b1 g1 gn1 X E1 A1 D1 => ?_)
  have sz_b1 : h0.size ≤ b1 := Nat.le_trans (Keep.refl h0 []).1 (Nat.le_of_eq g1.symm)
  have K1 : Keep h0 h1 [] := (Keep.refl h0 []).ext E1
  refine w_dup X d4_33 rfl ?_
  refine w_iconst X (2 : Int32) d4_34 rfl ?_
  refine w_newarr X d4_35 (wd_10 hw) 2 2 (by decide) (by decide) (by decide) (by decide) (by decide) (by decide) (fun T h2 b2 g2 gn2 X E2 A2 => ?_)
  replace A2 : Ary Z h2 b2 .char [(.int 0), (.int 0)] := A2
  have sz_b2 : h0.size ≤ b2 := Nat.le_trans K1.1 (Nat.le_of_eq g2.symm)
  have K2 : Keep h0 h2 [] := K1.ext E2
  refine w_dup X d4_37 rfl ?_
  refine w_iconst X (0 : Int32) d4_38 rfl ?_
  refine w_iloadN X d4_39 rfl ?_
  refine w_castore X d4_40 A2 (by decide) rfl gn2 (.int c0) (congrArg Value.int nc0) [(.int c0), (.int 0)] rfl (fun T h3 X W3 A3 => ?_)
  have K3 : Keep h0 h3 [] := K2.wr W3 (Or.inr sz_b2)
  refine w_dup X d4_41 rfl ?_
  refine w_iconst X (1 : Int32) d4_42 rfl ?_
  refine w_iloadN X d4_43 rfl ?_
  refine w_castore X d4_44 A3 (by decide) rfl gn2 (.int c1) (congrArg Value.int nc1) [(.int c0), (.int c1)] rfl (fun T h4 X W4 A4 => ?_)
  have K4 : Keep h0 h4 [] := K3.wr W4 (Or.inr sz_b2)
  have f5 := (((A1.ext E2).wr W3).wr W4)
  have f6 := ((((show Fld Z h1 b1 "java/lang/String" "value" "[B" .null from D1 (Or.inr (wd_23 hw)) (ty := (.array .byte)) (by decide)).ext E2).other W3 (Or.inl (nel (ltl A1.lt (Nat.le_of_eq g2.symm))))).other W4 (Or.inl (nel (ltl A1.lt (Nat.le_of_eq g2.symm)))))
  have f7 := ((((show Fld Z h1 b1 "java/lang/String" "coder" "B" (.int 0) from D1 (Or.inr (wd_24 hw)) (ty := .byte) (by decide)).ext E2).other W3 (Or.inl (nel (ltl A1.lt (Nat.le_of_eq g2.symm))))).other W4 (Or.inl (nel (ltl A1.lt (Nat.le_of_eq g2.symm)))))
  refine w_callI X d4_45 rfl (wd_11 hw) (wd_12 hw) (wd_9 hw) (wd_13 hw) (by decide) (argsL := [(.ref b2)]) (S := [(.ref b1)]) (m_si_2 hw hS gn1 f5 f6 f7 A4 l0 l1) pd_7 rfl rfl rfl (by decide) (leR rfl) (by decide) (by decide) (fun T h5 v5 L5 X q5 => ?_)
  obtain ⟨rfl, Ex5, Cx5, Kc5, t5, gt5, gn5, Vx5, At5⟩ := q5
  have K8 : Keep h0 h5 [] := K4.trans Kc5 (fun x hx => by cases List.mem_singleton.mp hx; exact (Or.inr sz_b1))
  have sz_t5 : h0.size ≤ t5 := Nat.le_trans K4.1 gt5
  show Wp _ _ _ _ (T.setTop (mkF _ _ _ [(.ref b1)]))
  exact g_retR X Y rfl (rfl) rfl d4_48 (fun vm' hW => ⟨_, _, rfl, ⟨Ex5, Cx5, Vx5, At5⟩, K8, (Gs.warm hW).keep K8⟩) (by decide) (by decide)
theorem m_pick_3 (hw : own_hw a0 Z) {h0 : Heap} {zc : Int32} {fm : Value} {x c0 c1 c2 : Int32} (hS : own_S Z zc fm) (hheld : ∀ p ∈ consts_1, Jvm.Lit.constHeld Z p.1 p.2) (hcw : Jvm.Lit.compactW.before a0 Z = true) (hx : x = (3 : Int32)) (l0 : ¬ (255 : Int32) < c0) (nc0 : nar .char c0 = c0) (l1 : ¬ (255 : Int32) < c1) (nc1 : nar .char c1 = c1) (l2 : ¬ (255 : Int32) < c2) (nc2 : nar .char c2 = c2) :
    DoesG l Z n0 (own_G Z h0) ⟨"com/example/inflow/inflow/model/DeploymentExceptionForDescriptorPinLaw", "pick", "(CCCI)Ljava/lang/String;"⟩ method_4_code 4 (some (.object "java/lang/String")) [] { frames := 4, cells := 4, slots := 10, locals := 66 } #[(.int c0), (.int c1), (.int c2), (.int x)] h0 (fun v h vm => ∃ a t, v = some (.ref a) ∧ Lat Z h a t (0 : Int32) [(.int (c0.toInt8.toInt32)), (.int (c1.toInt8.toInt32)), (.int (c2.toInt8.toInt32))] ∧ Keep h0 h [] ∧ own_G Z h vm) := by
  refine DoesG.start (plainFor_of_name pn_1) ?_
  obtain ⟨S_zc, hzc, S_fm, hfm⟩ := id hS
  intro p e s m below meth c T X Y hs0 Gs
  replace X : Sd _ _ _ _ _ "com/example/inflow/inflow/model/DeploymentExceptionForDescriptorPinLaw" "pick" _ _ _ _ _ _ _ _ _ _ _ _ _ _ _ _ := X
  refine Wp.cast (g' := mkF m 0 #[.val (.int c0), .val (.int c1), .val (.int c2), .val (.int x)] []) (by first | (simp [entryFrame, mkF, argsToLocals, Value.category, maxLocals]; done) | rfl) ?_
  refine w_iloadN X d4_0 rfl ?_
  refine w_ifne X d4_1 (fun _ => ?_) (fun hc => absurd hc (by rw [hx]; decide))
  refine w_iloadN X d4_15 rfl ?_
  refine w_iconst X (1 : Int32) d4_16 rfl ?_
  refine w_icmpne X d4_17 (fun _ => ?_) (fun hc => absurd hc (by rw [hx]; decide))
  refine w_iloadN X d4_25 rfl ?_
  refine w_iconst X (2 : Int32) d4_26 rfl ?_
  refine w_icmpne X d4_27 (fun _ => ?_) (fun hc => absurd hc (by rw [hx]; decide))
  refine w_new X d4_49 (wd_7 hw) (wd_8 hw) (wd_9 hw) (by decide) (by decide) (fun T h1 b1 g1 gn1 X E1 A1 D1 => ?_)
  have sz_b1 : h0.size ≤ b1 := Nat.le_trans (Keep.refl h0 []).1 (Nat.le_of_eq g1.symm)
  have K1 : Keep h0 h1 [] := (Keep.refl h0 []).ext E1
  refine w_dup X d4_52 rfl ?_
  refine w_iconst X (3 : Int32) d4_53 rfl ?_
  refine w_newarr X d4_54 (wd_10 hw) 3 3 (by decide) (by decide) (by decide) (by decide) (by decide) (by decide) (fun T h2 b2 g2 gn2 X E2 A2 => ?_)
  replace A2 : Ary Z h2 b2 .char [(.int 0), (.int 0), (.int 0)] := A2
  have sz_b2 : h0.size ≤ b2 := Nat.le_trans K1.1 (Nat.le_of_eq g2.symm)
  have K2 : Keep h0 h2 [] := K1.ext E2
  refine w_dup X d4_56 rfl ?_
  refine w_iconst X (0 : Int32) d4_57 rfl ?_
  refine w_iloadN X d4_58 rfl ?_
  refine w_castore X d4_59 A2 (by decide) rfl gn2 (.int c0) (congrArg Value.int nc0) [(.int c0), (.int 0), (.int 0)] rfl (fun T h3 X W3 A3 => ?_)
  have K3 : Keep h0 h3 [] := K2.wr W3 (Or.inr sz_b2)
  refine w_dup X d4_60 rfl ?_
  refine w_iconst X (1 : Int32) d4_61 rfl ?_
  refine w_iloadN X d4_62 rfl ?_
  refine w_castore X d4_63 A3 (by decide) rfl gn2 (.int c1) (congrArg Value.int nc1) [(.int c0), (.int c1), (.int 0)] rfl (fun T h4 X W4 A4 => ?_)
  have K4 : Keep h0 h4 [] := K3.wr W4 (Or.inr sz_b2)
  refine w_dup X d4_64 rfl ?_
  refine w_iconst X (2 : Int32) d4_65 rfl ?_
  refine w_iloadN X d4_66 rfl ?_
  refine w_castore X d4_67 A4 (by decide) rfl gn2 (.int c2) (congrArg Value.int nc2) [(.int c0), (.int c1), (.int c2)] rfl (fun T h5 X W5 A5 => ?_)
  have K5 : Keep h0 h5 [] := K4.wr W5 (Or.inr sz_b2)
  have f6 := ((((A1.ext E2).wr W3).wr W4).wr W5)
  have f7 := (((((show Fld Z h1 b1 "java/lang/String" "value" "[B" .null from D1 (Or.inr (wd_23 hw)) (ty := (.array .byte)) (by decide)).ext E2).other W3 (Or.inl (nel (ltl A1.lt (Nat.le_of_eq g2.symm))))).other W4 (Or.inl (nel (ltl A1.lt (Nat.le_of_eq g2.symm))))).other W5 (Or.inl (nel (ltl A1.lt (Nat.le_of_eq g2.symm)))))
  have f8 := (((((show Fld Z h1 b1 "java/lang/String" "coder" "B" (.int 0) from D1 (Or.inr (wd_24 hw)) (ty := .byte) (by decide)).ext E2).other W3 (Or.inl (nel (ltl A1.lt (Nat.le_of_eq g2.symm))))).other W4 (Or.inl (nel (ltl A1.lt (Nat.le_of_eq g2.symm))))).other W5 (Or.inl (nel (ltl A1.lt (Nat.le_of_eq g2.symm)))))
  refine w_callI X d4_68 rfl (wd_11 hw) (wd_12 hw) (wd_9 hw) (wd_13 hw) (by decide) (argsL := [(.ref b2)]) (S := [(.ref b1)]) (m_si_3 hw hS gn1 f6 f7 f8 A5 l0 l1 l2) pd_7 rfl rfl rfl (by decide) (leR rfl) (by decide) (by decide) (fun T h6 v6 L6 X q6 => ?_)
  obtain ⟨rfl, Ex6, Cx6, Kc6, t6, gt6, gn6, Vx6, At6⟩ := q6
  have K9 : Keep h0 h6 [] := K5.trans Kc6 (fun x hx => by cases List.mem_singleton.mp hx; exact (Or.inr sz_b1))
  have sz_t6 : h0.size ≤ t6 := Nat.le_trans K5.1 gt6
  show Wp _ _ _ _ (T.setTop (mkF _ _ _ [(.ref b1)]))
  exact g_retR X Y rfl (rfl) rfl d4_71 (fun vm' hW => ⟨_, _, rfl, ⟨Ex6, Cx6, Vx6, At6⟩, K9, (Gs.warm hW).keep K9⟩) (by decide) (by decide)
theorem m_asb (hw : own_hw a0 Z) {h0 : Heap} {zc : Int32} {fm : Value} {a : Addr} (hS : own_S Z zc fm) (ga : n0 ≤ a) (Ea : Exa Z h0 a "java/lang/StringBuilder") (F1 : Fld Z h0 a "java/lang/AbstractStringBuilder" "value" "[B" .null) (F2 : Fld Z h0 a "java/lang/AbstractStringBuilder" "coder" "B" (.int 0)) (F3 : Fld Z h0 a "java/lang/AbstractStringBuilder" "count" "I" (.int 0)) :
    Does l Z n0 ⟨"java/lang/AbstractStringBuilder", "<init>", "(I)V"⟩ jdk_68_method_2_code 2 none [] { frames := 1, cells := 1, slots := 16, locals := 12 } #[(.ref a), (.int 16)] h0 (fun v h => v = none ∧ Keep h0 h [a] ∧ ∃ d, h0.size ≤ d ∧ n0 ≤ d ∧ Bld Z h a d (0 : Int32) (List.replicate 16 (.int 0)) ∧ Exa Z h d "[B") := by
  refine Does.start (plainFor_of_name pn_4) ?_
  obtain ⟨S_zc, hzc, S_fm, hfm⟩ := id hS
  intro p e s m below meth c T X
  replace X : Sd _ _ _ _ _ "java/lang/AbstractStringBuilder" "<init>" _ _ _ _ _ _ _ _ _ _ _ _ _ _ _ _ := X
  refine Wp.cast (g' := mkF m 0 #[.val (.ref a), .val (.int 16)] []) (by first | (simp [entryFrame, mkF, argsToLocals, Value.category, maxLocals]; done) | rfl) ?_
  refine w_aloadN X k68_2_0 rfl (rfl) ?_
  refine w_initO X k68_2_1 (wd_50 hw) (wd_19 hw) (wd_20 hw) rfl (by decide) (leR rfl) (fun T X => ?_)
  refine w_getS X k68_2_4 (host := "") (Or.inl (wd_51 hw)) Via.refl (S_zc.ext X.old.2) (fun T X => ?_)
  refine w_ifeq X k68_2_7 (fun hc => absurd hc hzc) (fun _ => ?_)
  refine w_aloadN X k68_2_10 rfl (rfl) ?_
  refine w_iloadN X k68_2_11 rfl ?_
  refine w_newarrE X k68_2_12 (wd_22 hw) 16 16 "[B" rfl (by decide) (by decide) (by decide) (by decide) (by decide) (by decide) (fun T h1 b1 g1 gn1 X E1 A1 B1 => ?_)
  replace A1 : Ary Z h1 b1 .byte (List.replicate 16 (.int 0)) := A1
  have sz_b1 : h0.size ≤ b1 := Nat.le_trans (Keep.refl h0 [a]).1 (Nat.le_of_eq g1.symm)
  have K1 : Keep h0 h1 [a] := (Keep.refl h0 [a]).ext E1
  have f2 := (Ea.ext E1)
  have f3 := (F1.ext E1)
  refine w_putF X k68_2_14 (host := "") (Or.inl (wd_52 hw)) Via.refl f3 f2 (Or.inl (wd_53 hw)) (wd_39 hw) (ty := (.array .byte)) (by decide) rfl rfl ga (fun T h2 X W2 => ?_)
  have f4 := f3.same W2
  have K5 : Keep h0 h2 [a] := K1.wr W2 (Or.inl (List.mem_of_getElem? (i := 0) rfl))
  refine w_aloadN X k68_2_17 rfl (rfl) ?_
  refine w_iconst X (0 : Int32) k68_2_18 rfl ?_
  have f6 := (f2.wr W2)
  have f7 := ((F2.ext E1).other W2 (Or.inr (slot_ne (Or.inl (wd_55 hw)) (Or.inl (wd_53 hw)) (by decide) (t := .byte) (t' := (.array .byte)) (by decide) (by decide))))
  refine w_putFN X k68_2_19 (wd_54 hw) Via.refl f7 f6 (Or.inl (wd_55 hw)) (wd_39 hw) (ty := .byte) (by decide) (.int 0) rfl (by decide) ga (fun T h3 X W3 => ?_)
  have f8 := f7.same W3
  have K9 : Keep h0 h3 [a] := K5.wr W3 (Or.inl (List.mem_of_getElem? (i := 0) rfl))
  refine w_goto X k68_2_22 ?_
  have f10 := (f6.wr W3)
  have f11 := (f4.other W3 (Or.inr (slot_ne (Or.inl (wd_53 hw)) (Or.inl (wd_55 hw)) (by decide) (t := (.array .byte)) (t' := .byte) (by decide) (by decide))))
  have f12 := (((F3.ext E1).other W2 (Or.inr (slot_ne (Or.inl (wd_79 hw)) (Or.inl (wd_53 hw)) (by decide) (t := .int) (t' := (.array .byte)) (by decide) (by decide)))).other W3 (Or.inr (slot_ne (Or.inl (wd_79 hw)) (Or.inl (wd_55 hw)) (by decide) (t := .int) (t' := .byte) (by decide) (by decide))))
  have f13 := ((A1.other W2 (Ne.symm (nel (ltl Ea.lt (Nat.le_of_eq g1.symm))))).other W3 (Ne.symm (nel (ltl Ea.lt (Nat.le_of_eq g1.symm)))))
  have f14 := ((B1.wr W2).wr W3)
  exact w_retV X k68_2_38 ⟨rfl, K9, _, sz_b1, gn1, ⟨f10, f11, f8, f12, f13⟩, f14⟩ (by decide) (by decide)
theorem m_sb (hw : own_hw a0 Z) {h0 : Heap} {zc : Int32} {fm : Value} {a : Addr} (hS : own_S Z zc fm) (ga : n0 ≤ a) (Ea : Exa Z h0 a "java/lang/StringBuilder") (F1 : Fld Z h0 a "java/lang/AbstractStringBuilder" "value" "[B" .null) (F2 : Fld Z h0 a "java/lang/AbstractStringBuilder" "coder" "B" (.int 0)) (F3 : Fld Z h0 a "java/lang/AbstractStringBuilder" "count" "I" (.int 0)) :
    Does l Z n0 ⟨"java/lang/StringBuilder", "<init>", "()V"⟩ jdk_67_method_1_code 1 none [] { frames := 2, cells := 1, slots := 16, locals := 25 } #[(.ref a)] h0 (fun v h => v = none ∧ Keep h0 h [a] ∧ ∃ d, h0.size ≤ d ∧ n0 ≤ d ∧ Bld Z h a d (0 : Int32) (List.replicate 16 (.int 0)) ∧ Exa Z h d "[B") := by
  refine Does.start (plainFor_of_name pn_5) ?_
  obtain ⟨S_zc, hzc, S_fm, hfm⟩ := id hS
  intro p e s m below meth c T X
  replace X : Sd _ _ _ _ _ "java/lang/StringBuilder" "<init>" _ _ _ _ _ _ _ _ _ _ _ _ _ _ _ _ := X
  refine Wp.cast (g' := mkF m 0 #[.val (.ref a)] []) (by first | (simp [entryFrame, mkF, argsToLocals, Value.category, maxLocals]; done) | rfl) ?_
  refine w_aloadN X k67_1_0 rfl (rfl) ?_
  refine w_bipush X (16 : Int32) k67_1_1 rfl ?_
  refine w_callI X k67_1_3 rfl (wd_44 hw) (wd_45 hw) (wd_48 hw) (wd_49 hw) (by decide) (argsL := [(.int 16)]) (S := []) (m_asb hw hS ga Ea F1 F2 F3) pd_9 rfl rfl rfl (by decide) (leR rfl) (by decide) (by decide) (fun T h1 v1 L1 X q1 => ?_)
  obtain ⟨rfl, r1⟩ := q1
  show Wp _ _ _ _ (T.setTop (mkF _ _ _ []))
  exact w_retV X k67_1_6 ⟨rfl, r1⟩ (by decide) (by decide)
theorem m_cdr (hw : own_hw a0 Z) {h0 : Heap} {zc : Int32} {fm : Value} {a : Addr} (hS : own_S Z zc fm) (Ca : Fld Z h0 a "java/lang/String" "coder" "B" (.int 0)) :
    Does l Z n0 ⟨"java/lang/String", "coder", "()B"⟩ jdk_42_method_152_code 1 (some .byte) [] { frames := 0, cells := 0, slots := 0, locals := 0 } #[(.ref a)] h0 (fun v h => v = some (.int 0) ∧ h0 = h) := by
  refine Does.start (plainFor_of_name pn_0) ?_
  obtain ⟨S_zc, hzc, S_fm, hfm⟩ := id hS
  intro p e s m below meth c T X
  replace X : Sd _ _ _ _ _ "java/lang/String" "coder" _ _ _ _ _ _ _ _ _ _ _ _ _ _ _ _ := X
  refine Wp.cast (g' := mkF m 0 #[.val (.ref a)] []) (by first | (simp [entryFrame, mkF, argsToLocals, Value.category, maxLocals]; done) | rfl) ?_
  refine w_getS X k42_152_0 (host := "") (Or.inl (wd_77 hw)) Via.refl (S_zc.ext X.old.2) (fun T X => ?_)
  refine w_ifeq X k42_152_3 (fun hc => absurd hc hzc) (fun _ => ?_)
  refine w_aloadN X k42_152_6 rfl (rfl) ?_
  refine w_getF X k42_152_7 (host := "") (Or.inl (wd_28 hw)) Via.refl Ca (fun T X => ?_)
  refine w_goto X k42_152_10 ?_
  exact w_ret_byte X (0 : Int32) (by decide) k42_152_14 ⟨rfl, rfl⟩ (by decide) (by decide)
theorem m_isl (hw : own_hw a0 Z) {h0 : Heap} {zc : Int32} {fm : Value} {a : Addr} (hS : own_S Z zc fm) (Ca : Fld Z h0 a "java/lang/String" "coder" "B" (.int 0)) :
    Does l Z n0 ⟨"java/lang/String", "isLatin1", "()Z"⟩ jdk_42_method_154_code 1 (some .boolean) [] { frames := 0, cells := 0, slots := 0, locals := 0 } #[(.ref a)] h0 (fun v h => v = some (.int 1) ∧ h0 = h) := by
  refine Does.start (plainFor_of_name pn_0) ?_
  obtain ⟨S_zc, hzc, S_fm, hfm⟩ := id hS
  intro p e s m below meth c T X
  replace X : Sd _ _ _ _ _ "java/lang/String" "isLatin1" _ _ _ _ _ _ _ _ _ _ _ _ _ _ _ _ := X
  refine Wp.cast (g' := mkF m 0 #[.val (.ref a)] []) (by first | (simp [entryFrame, mkF, argsToLocals, Value.category, maxLocals]; done) | rfl) ?_
  refine w_getS X k42_154_0 (host := "") (Or.inl (wd_77 hw)) Via.refl (S_zc.ext X.old.2) (fun T X => ?_)
  refine w_ifeq X k42_154_3 (fun hc => absurd hc hzc) (fun _ => ?_)
  refine w_aloadN X k42_154_6 rfl (rfl) ?_
  refine w_getF X k42_154_7 (host := "") (Or.inl (wd_28 hw)) Via.refl Ca (fun T X => ?_)
  refine w_ifne X k42_154_10 (fun hc => absurd rfl hc) (fun _ => ?_)
  refine w_iconst X (1 : Int32) k42_154_13 rfl ?_
  refine w_goto X k42_154_14 ?_
  exact w_ret_boolean X (1 : Int32) (by decide) k42_154_18 ⟨rfl, rfl⟩ (by decide) (by decide)
theorem m_pci (hw : own_hw a0 Z) {h0 : Heap} {i n : Int32} {fm : Value} (hfm : fm.isRef = true) (hi : ¬ i < 0) (hn : i < n) :
    Does l Z n0 ⟨"jdk/internal/util/Preconditions", "checkIndex", "(IILjava/util/function/BiFunction;)I"⟩ jdk_41_method_11_code 3 (some .int) [] { frames := 0, cells := 0, slots := 0, locals := 0 } #[(.int i), (.int n), fm] h0 (fun v h => v = some (.int i) ∧ h0 = h) := by
  refine Does.start (plainFor_of_name pn_6) ?_
  intro p e s m below meth c T X
  replace X : Sd _ _ _ _ _ "jdk/internal/util/Preconditions" "checkIndex" _ _ _ _ _ _ _ _ _ _ _ _ _ _ _ _ := X
  refine Wp.cast (g' := mkF m 0 #[.val (.int i), .val (.int n), .val fm] []) (by rcases ref_cases hfm with rfl | ⟨_, rfl⟩ <;> first | (simp [entryFrame, mkF, argsToLocals, Value.category, maxLocals]; done) | rfl) ?_
  refine w_iloadN X k41_11_0 rfl ?_
  refine w_iflt X k41_11_1 (fun hc => absurd hc hi) (fun _ => ?_)
  refine w_iloadN X k41_11_4 rfl ?_
  refine w_iloadN X k41_11_5 rfl ?_
  refine w_icmplt X k41_11_6 (fun _ => ?_) (fun hc => absurd hn hc)
  refine w_iloadN X k41_11_16 rfl ?_
  exact w_retI X k41_11_17 ⟨rfl, rfl⟩ (by decide) (by decide)
theorem m_sci (hw : own_hw a0 Z) {h0 : Heap} {zc : Int32} {fm : Value} {i n : Int32} (hS : own_S Z zc fm) (hi : ¬ i < 0) (hn : i < n) :
    Does l Z n0 ⟨"java/lang/String", "checkIndex", "(II)V"⟩ jdk_42_method_155_code 2 none [] { frames := 1, cells := 0, slots := 0, locals := 14 } #[(.int i), (.int n)] h0 (fun v h => v = none ∧ h0 = h) := by
  refine Does.start (plainFor_of_name pn_0) ?_
  obtain ⟨S_zc, hzc, S_fm, hfm⟩ := id hS
  intro p e s m below meth c T X
  replace X : Sd _ _ _ _ _ "java/lang/String" "checkIndex" _ _ _ _ _ _ _ _ _ _ _ _ _ _ _ _ := X
  refine Wp.cast (g' := mkF m 0 #[.val (.int i), .val (.int n)] []) (by first | (simp [entryFrame, mkF, argsToLocals, Value.category, maxLocals]; done) | rfl) ?_
  refine w_iloadN X k42_155_0 rfl ?_
  refine w_iloadN X k42_155_1 rfl ?_
  refine w_getS X k42_155_2 (host := "") (Or.inl (wd_233 hw)) Via.refl (S_fm.ext X.old.2) (fun T X => ?_)
  refine w_callS X k42_155_5 (wd_235 hw) (wd_236 hw) (wd_234 hw) (wd_237 hw) (by decide) (argsL := [(.int i), (.int n), fm]) (S := []) (m_pci hw hfm hi hn) pd_10 rfl rfl rfl (by decide) (leR rfl) (by decide) (by decide) (fun T h1 v1 L1 X q1 => ?_)
  obtain ⟨rfl, rfl⟩ := q1
  show Wp _ _ _ _ (T.setTop (mkF _ _ _ [(.int i)]))
  refine w_pop X k42_155_8 rfl ?_
  exact w_retV X k42_155_9 ⟨rfl, rfl⟩ (by decide) (by decide)
theorem m_lnG (hw : own_hw a0 Z) {h0 : Heap} {zc : Int32} {fm : Value} {a t : Addr} {ws : List Value} {n : Int32} (hS : own_S Z zc fm) (Ea : Exa Z h0 a "java/lang/String") (Ca : Fld Z h0 a "java/lang/String" "coder" "B" (.int 0)) (Va : Fld Z h0 a "java/lang/String" "value" "[B" (.ref t)) (At : Ary Z h0 t .byte ws) (hn : ws.length.toInt32 = n) :
    Does l Z n0 ⟨"java/lang/String", "length", "()I"⟩ jdk_42_method_54_code 1 (some .int) [] { frames := 1, cells := 0, slots := 0, locals := 13 } #[(.ref a)] h0 (fun v h => v = some (.int n) ∧ h0 = h) := by
  refine Does.start (plainFor_of_name pn_0) ?_
  obtain ⟨S_zc, hzc, S_fm, hfm⟩ := id hS
  intro p e s m below meth c T X
  replace X : Sd _ _ _ _ _ "java/lang/String" "length" _ _ _ _ _ _ _ _ _ _ _ _ _ _ _ _ := X
  refine Wp.cast (g' := mkF m 0 #[.val (.ref a)] []) (by first | (simp [entryFrame, mkF, argsToLocals, Value.category, maxLocals]; done) | rfl) ?_
  refine w_aloadN X k42_54_0 rfl (rfl) ?_
  refine w_getF X k42_54_1 (host := "") (Or.inl (wd_27 hw)) Via.refl Va (fun T X => ?_)
  refine w_arrlen X n k42_54_4 At hn ?_
  refine w_aloadN X k42_54_5 rfl (rfl) ?_
  refine w_callV X k42_54_6 (wd_72 hw) (wd_73 hw) (nfs X.hZ (wd_75 hw)) (wd_75 hw) (wd_74 hw) (wd_9 hw) (wd_76 hw) (by decide) Ea (argsL := []) (S := [(.int n)]) (m_cdr hw hS Ca) pd_11 rfl rfl rfl (by decide) (leR rfl) (by decide) (by decide) (fun T h1 v1 L1 X q1 => ?_)
  obtain ⟨rfl, rfl⟩ := q1
  show Wp _ _ _ _ (T.setTop (mkF _ _ _ [(.int 0), (.int n)]))
  refine w_ishr X k42_54_9 ?_
  exact w_retI X k42_54_10 ⟨by rw [own_shr0], rfl⟩ (by decide) (by decide)
theorem m_ec0 (hw : own_hw a0 Z) {h0 : Heap} {a d : Addr} {zs : List Value} {m0 cp : Int32} (F1 : Fld Z h0 a "java/lang/AbstractStringBuilder" "value" "[B" (.ref d)) (F2 : Fld Z h0 a "java/lang/AbstractStringBuilder" "coder" "B" (.int 0)) (Ad : Ary Z h0 d .byte zs) (hz : zs.length.toInt32 = cp) (hm : ¬ (0 : Int32) < m0 - cp) :
    Does l Z n0 ⟨"java/lang/AbstractStringBuilder", "ensureCapacityInternal", "(I)V"⟩ jdk_68_method_9_code 3 none [] { frames := 0, cells := 0, slots := 0, locals := 0 } #[(.ref a), (.int m0)] h0 (fun v h => v = none ∧ h0 = h) := by
  refine Does.start (plainFor_of_name pn_4) ?_
  intro p e s m below meth c T X
  replace X : Sd _ _ _ _ _ "java/lang/AbstractStringBuilder" "ensureCapacityInternal" _ _ _ _ _ _ _ _ _ _ _ _ _ _ _ _ := X
  refine Wp.cast (g' := mkF m 0 #[.val (.ref a), .val (.int m0), .unset] []) (by first | (simp [entryFrame, mkF, argsToLocals, Value.category, maxLocals]; done) | rfl) ?_
  refine w_aloadN X k68_9_0 rfl (rfl) ?_
  refine w_getF X k68_9_1 (host := "") (Or.inl (wd_52 hw)) Via.refl F1 (fun T X => ?_)
  refine w_arrlen X cp k68_9_4 Ad hz ?_
  refine w_aloadN X k68_9_5 rfl (rfl) ?_
  refine w_getF X k68_9_6 (host := "") (Or.inl (wd_54 hw)) Via.refl F2 (fun T X => ?_)
  refine w_ishr X k68_9_9 ?_
  refine w_istoreN X #[.val (.ref a), .val (.int m0), .val (.int (cp >>> ((0 : Int32) &&& 31)))] k68_9_10 rfl ?_
  refine w_iloadN X k68_9_11 rfl ?_
  refine w_iloadN X k68_9_12 rfl ?_
  refine w_isub X k68_9_13 ?_
  refine w_ifle X k68_9_14 (fun _ => ?_) (fun hc => absurd hc (by rw [own_shr0]; exact hm))
  exact w_retV X k68_9_38 ⟨rfl, rfl⟩ (by decide) (by decide)
theorem m_cpG (hw : own_hw a0 Z) {h0 : Heap} {d : Addr} {zs : List Value} (Ad : Ary Z h0 d .byte zs) (hz : zs.length.toInt32 = (16 : Int32)) (hzn : zs.length = 16) :
    Does l Z n0 ⟨"java/util/Arrays", "copyOf", "([BI)[B"⟩ jdk_65_method_121_code 3 (some (.array .byte)) [] { frames := 1, cells := 1, slots := 34, locals := 40 } #[(.ref d), (.int 34)] h0 (fun v h => ∃ b, v = some (.ref b) ∧ h0.size ≤ b ∧ n0 ≤ b ∧ Ary Z h b .byte (own_spl (List.replicate 34 (.int 0)) 0 zs) ∧ Exa Z h b "[B" ∧ Keep h0 h []) := by
  refine Does.start (plainFor_of_name pn_7) ?_
  intro p e s m below meth c T X
  replace X : Sd _ _ _ _ _ "java/util/Arrays" "copyOf" _ _ _ _ _ _ _ _ _ _ _ _ _ _ _ _ := X
  refine Wp.cast (g' := mkF m 0 #[.val (.ref d), .val (.int 34), .unset] []) (by first | (simp [entryFrame, mkF, argsToLocals, Value.category, maxLocals]; done) | rfl) ?_
  refine w_iloadN X k65_121_0 rfl ?_
  refine w_aloadN X k65_121_1 rfl (rfl) ?_
  refine w_arrlen X (16 : Int32) k65_121_2 Ad hz ?_
  refine w_icmpne X k65_121_3 (fun _ => ?_) (fun hc => absurd hc (by decide))
  refine w_iloadN X k65_121_14 rfl ?_
  refine w_newarrE X k65_121_15 (wd_22 hw) 34 34 "[B" rfl (by decide) (by decide) (by decide) (by decide) (by decide) (by decide) (fun T h1 b1 g1 gn1 X E1 A1 B1 => ?_)
  replace A1 : Ary Z h1 b1 .byte (List.replicate 34 (.int 0)) := A1
  have sz_b1 : h0.size ≤ b1 := Nat.le_trans (Keep.refl h0 []).1 (Nat.le_of_eq g1.symm)
  have K1 : Keep h0 h1 [] := (Keep.refl h0 []).ext E1
  refine w_astoreN X #[.val (.ref d), .val (.int 34), .val (.ref b1)] k65_121_17 (rfl) rfl ?_
  refine w_aloadN X k65_121_18 rfl (rfl) ?_
  refine w_iconst X (0 : Int32) k65_121_19 rfl ?_
  refine w_aloadN X k65_121_20 rfl (rfl) ?_
  refine w_iconst X (0 : Int32) k65_121_21 rfl ?_
  refine w_aloadN X k65_121_22 rfl (rfl) ?_
  have f2 := (Ad.ext E1)
  refine w_arrlen X (16 : Int32) k65_121_23 f2 hz ?_
  refine w_iloadN X k65_121_24 rfl ?_
  refine w_callS X k65_121_25 (wd_273 hw) (wd_274 hw) (wd_266 hw) (wd_275 hw) (by decide) (argsL := [(.int 16), (.int 34)]) (S := [(.int 0), (.ref b1), (.int 0), (.ref d)]) (m_min hw (r := (16 : Int32)) (by decide)) pd_12 rfl rfl rfl (by decide) (leR rfl) (by decide) (by decide) (fun T h2 v2 L2 X q2 => ?_)
  obtain ⟨rfl, rfl⟩ := q2
  show Wp _ _ _ _ (T.setTop (mkF _ _ _ [(.int 16), (.int 0), (.ref b1), (.int 0), (.ref d)]))
  refine w_cpM X k65_121_28 (wd_276 hw) (wd_104 hw) (wd_102 hw) (wd_103 hw) rfl f2 A1 gn1 (by decide) hz (by rw [hzn]; decide) rfl (by decide) (leR rfl) (fun T h3 L3 X Kc3 A3 => ?_)
  have K3 : Keep h0 h3 [] := K1.trans Kc3 (fun x hx => by cases List.mem_singleton.mp hx; exact (Or.inr sz_b1))
  refine w_aloadN X k65_121_31 rfl (rfl) ?_
  have f4 := (B1.keep Kc3)
  exact w_retR X rfl (rfl) rfl k65_121_32 ⟨_, rfl, sz_b1, gn1, A3, f4, K3⟩ (by decide) (by decide)
theorem m_nl_17 (hw : own_hw a0 Z) {h0 : Heap}   :
    Does l Z n0 ⟨"jdk/internal/util/ArraysSupport", "newLength", "(III)I"⟩ jdk_48_method_27_code 4 (some .int) [] { frames := 1, cells := 0, slots := 0, locals := 14 } #[(.int 16), (.int 1), (.int 18)] h0 (fun v h => v = some (.int 34) ∧ h0 = h) := by
  refine Does.start (plainFor_of_name pn_8) ?_
  intro p e s m below meth c T X
  replace X : Sd _ _ _ _ _ "jdk/internal/util/ArraysSupport" "newLength" _ _ _ _ _ _ _ _ _ _ _ _ _ _ _ _ := X
  refine Wp.cast (g' := mkF m 0 #[.val (.int 16), .val (.int 1), .val (.int 18), .unset] []) (by first | (simp [entryFrame, mkF, argsToLocals, Value.category, maxLocals]; done) | rfl) ?_
  refine w_iloadN X k48_27_0 rfl ?_
  refine w_iloadN X k48_27_1 rfl ?_
  refine w_iloadN X k48_27_2 rfl ?_
  refine w_callS X k48_27_3 (wd_264 hw) (wd_265 hw) (wd_266 hw) (wd_267 hw) (by decide) (argsL := [(.int 1), (.int 18)]) (S := [(.int 16)]) (m_max hw (r := (18 : Int32)) (by decide)) pd_12 rfl rfl rfl (by decide) (leR rfl) (by decide) (by decide) (fun T h1 v1 L1 X q1 => ?_)
  obtain ⟨rfl, rfl⟩ := q1
  show Wp _ _ _ _ (T.setTop (mkF _ _ _ [(.int 18), (.int 16)]))
  refine w_iadd X k48_27_6 ?_
  refine w_istoreN X #[.val (.int 16), .val (.int 1), .val (.int 18), .val (.int 34)] k48_27_7 rfl ?_
  refine w_iconst X (0 : Int32) k48_27_8 rfl ?_
  refine w_iloadN X k48_27_9 rfl ?_
  refine w_icmpge X k48_27_10 (fun hc => absurd (by decide) hc) (fun _ => ?_)
  refine w_iloadN X k48_27_13 rfl ?_
  refine w_ldcI X k48_27_14 (wd_268 hw) ?_
  refine w_icmpgt X k48_27_16 (fun hc => absurd hc (by decide)) (fun _ => ?_)
  refine w_iloadN X k48_27_19 rfl ?_
  exact w_retI X k48_27_20 ⟨rfl, rfl⟩ (by decide) (by decide)
theorem m_ncp_17 (hw : own_hw a0 Z) {h0 : Heap} {a d : Addr} {zs : List Value} (F1 : Fld Z h0 a "java/lang/AbstractStringBuilder" "value" "[B" (.ref d)) (F2 : Fld Z h0 a "java/lang/AbstractStringBuilder" "coder" "B" (.int 0)) (Ad : Ary Z h0 d .byte zs) (hz : zs.length.toInt32 = (16 : Int32)) :
    Does l Z n0 ⟨"java/lang/AbstractStringBuilder", "newCapacity", "(I)I"⟩ jdk_68_method_10_code 6 (some .int) [] { frames := 2, cells := 0, slots := 0, locals := 29 } #[(.ref a), (.int 17)] h0 (fun v h => v = some (.int 34) ∧ h0 = h) := by
  refine Does.start (plainFor_of_name pn_4) ?_
  intro p e s m below meth c T X
  replace X : Sd _ _ _ _ _ "java/lang/AbstractStringBuilder" "newCapacity" _ _ _ _ _ _ _ _ _ _ _ _ _ _ _ _ := X
  refine Wp.cast (g' := mkF m 0 #[.val (.ref a), .val (.int 17), .unset, .unset, .unset, .unset] []) (by first | (simp [entryFrame, mkF, argsToLocals, Value.category, maxLocals]; done) | rfl) ?_
  refine w_aloadN X k68_10_0 rfl (rfl) ?_
  refine w_getF X k68_10_1 (host := "") (Or.inl (wd_52 hw)) Via.refl F1 (fun T X => ?_)
  refine w_arrlen X (16 : Int32) k68_10_4 Ad hz ?_
  refine w_istoreN X #[.val (.ref a), .val (.int 17), .val (.int 16), .unset, .unset, .unset] k68_10_5 rfl ?_
  refine w_iloadN X k68_10_6 rfl ?_
  refine w_aloadN X k68_10_7 rfl (rfl) ?_
  refine w_getF X k68_10_8 (host := "") (Or.inl (wd_54 hw)) Via.refl F2 (fun T X => ?_)
  refine w_ishl X k68_10_11 ?_
  refine w_istoreN X #[.val (.ref a), .val (.int 17), .val (.int 16), .val (.int 17), .unset, .unset] k68_10_12 rfl ?_
  refine w_iloadN X k68_10_13 rfl ?_
  refine w_iloadN X k68_10_14 rfl ?_
  refine w_isub X k68_10_15 ?_
  refine w_istore X #[.val (.ref a), .val (.int 17), .val (.int 16), .val (.int 17), .val (.int 1), .unset] k68_10_16 rfl ?_
  refine w_iloadN X k68_10_18 rfl ?_
  refine w_iload X k68_10_19 rfl ?_
  refine w_iloadN X k68_10_21 rfl ?_
  refine w_iconst X (2 : Int32) k68_10_22 rfl ?_
  refine w_aloadN X k68_10_23 rfl (rfl) ?_
  refine w_getF X k68_10_24 (host := "") (Or.inl (wd_54 hw)) Via.refl F2 (fun T X => ?_)
  refine w_ishl X k68_10_27 ?_
  refine w_iadd X k68_10_28 ?_
  refine w_callS X k68_10_29 (wd_260 hw) (wd_261 hw) (wd_262 hw) (wd_263 hw) (by decide) (argsL := [(.int 16), (.int 1), (.int 18)]) (S := []) (m_nl_17 hw) pd_13 rfl rfl rfl (by decide) (leR rfl) (by decide) (by decide) (fun T h1 v1 L1 X q1 => ?_)
  obtain ⟨rfl, rfl⟩ := q1
  show Wp _ _ _ _ (T.setTop (mkF _ _ _ [(.int 34)]))
  refine w_istore X #[.val (.ref a), .val (.int 17), .val (.int 16), .val (.int 17), .val (.int 1), .val (.int 34)] k68_10_32 rfl ?_
  refine w_iload X k68_10_34 rfl ?_
  refine w_ldcI X k68_10_36 (wd_269 hw) ?_
  refine w_icmpne X k68_10_38 (fun _ => ?_) (fun hc => absurd hc (by decide))
  refine w_iload X k68_10_51 rfl ?_
  refine w_aloadN X k68_10_53 rfl (rfl) ?_
  refine w_getF X k68_10_54 (host := "") (Or.inl (wd_54 hw)) Via.refl F2 (fun T X => ?_)
  refine w_ishr X k68_10_57 ?_
  exact w_retI X k68_10_58 ⟨rfl, rfl⟩ (by decide) (by decide)
theorem m_ec1_17 (hw : own_hw a0 Z) {h0 : Heap} {a d : Addr} {zs : List Value} {k : Int32} (ga : n0 ≤ a) (Ea : Exa Z h0 a "java/lang/StringBuilder") (F1 : Fld Z h0 a "java/lang/AbstractStringBuilder" "value" "[B" (.ref d)) (F2 : Fld Z h0 a "java/lang/AbstractStringBuilder" "coder" "B" (.int 0)) (F3 : Fld Z h0 a "java/lang/AbstractStringBuilder" "count" "I" (.int k)) (Ad : Ary Z h0 d .byte zs) (hz : zs.length.toInt32 = (16 : Int32)) (hzn : zs.length = 16) :
    Does l Z n0 ⟨"java/lang/AbstractStringBuilder", "ensureCapacityInternal", "(I)V"⟩ jdk_68_method_9_code 3 none [] { frames := 3, cells := 1, slots := 34, locals := 55 } #[(.ref a), (.int 17)] h0 (fun v h => v = none ∧ Keep h0 h [a] ∧ ∃ d, h0.size ≤ d ∧ n0 ≤ d ∧ Bld Z h a d k (own_spl (List.replicate 34 (.int 0)) 0 zs) ∧ Exa Z h d "[B") := by
  refine Does.start (plainFor_of_name pn_4) ?_
  intro p e s m below meth c T X
  replace X : Sd _ _ _ _ _ "java/lang/AbstractStringBuilder" "ensureCapacityInternal" _ _ _ _ _ _ _ _ _ _ _ _ _ _ _ _ := X
  refine Wp.cast (g' := mkF m 0 #[.val (.ref a), .val (.int 17), .unset] []) (by first | (simp [entryFrame, mkF, argsToLocals, Value.category, maxLocals]; done) | rfl) ?_
  refine w_aloadN X k68_9_0 rfl (rfl) ?_
  refine w_getF X k68_9_1 (host := "") (Or.inl (wd_52 hw)) Via.refl F1 (fun T X => ?_)
  refine w_arrlen X (16 : Int32) k68_9_4 Ad hz ?_
  refine w_aloadN X k68_9_5 rfl (rfl) ?_
  refine w_getF X k68_9_6 (host := "") (Or.inl (wd_54 hw)) Via.refl F2 (fun T X => ?_)
  refine w_ishr X k68_9_9 ?_
  refine w_istoreN X #[.val (.ref a), .val (.int 17), .val (.int 16)] k68_9_10 rfl ?_
  refine w_iloadN X k68_9_11 rfl ?_
  refine w_iloadN X k68_9_12 rfl ?_
  refine w_isub X k68_9_13 ?_
  refine w_ifle X k68_9_14 (fun hc => absurd (by decide) hc) (fun _ => ?_)
  refine w_aloadN X k68_9_17 rfl (rfl) ?_
  refine w_aloadN X k68_9_18 rfl (rfl) ?_
  refine w_getF X k68_9_19 (host := "") (Or.inl (wd_52 hw)) Via.refl F1 (fun T X => ?_)
  refine w_aloadN X k68_9_22 rfl (rfl) ?_
  refine w_iloadN X k68_9_23 rfl ?_
  refine w_callP X k68_9_24 (wd_255 hw) (wd_256 hw) (own_selP (wd_258 hw) (wd_257 hw) (wd_256 hw) (by decide)) (wd_257 hw) (wd_48 hw) (wd_259 hw) (by decide) Ea (argsL := [(.int 17)]) (S := [(.ref d), (.ref a)]) (m_ncp_17 hw F1 F2 Ad hz) pd_14 rfl rfl rfl (by decide) (leR rfl) (by decide) (by decide) (fun T h1 v1 L1 X q1 => ?_)
  obtain ⟨rfl, rfl⟩ := q1
  show Wp _ _ _ _ (T.setTop (mkF _ _ _ [(.int 34), (.ref d), (.ref a)]))
  refine w_aloadN X k68_9_27 rfl (rfl) ?_
  refine w_getF X k68_9_28 (host := "") (Or.inl (wd_54 hw)) Via.refl F2 (fun T X => ?_)
  refine w_ishl X k68_9_31 ?_
  refine w_callS X k68_9_32 (wd_270 hw) (wd_271 hw) (wd_138 hw) (wd_272 hw) (by decide) (argsL := [(.ref d), (.int 34)]) (S := [(.ref a)]) (m_cpG hw Ad hz hzn) pd_15 rfl rfl rfl (by decide) (leR rfl) (by decide) (by decide) (fun T h2 v2 L2 X q2 => ?_)
  obtain ⟨t2, rfl, gt2, gn2, At2, Et2, Kc2⟩ := q2
  have K1 : Keep h0 h2 [a] := (Keep.refl h0 [a]).trans Kc2 (fun x hx => nomatch hx)
  have sz_t2 : h0.size ≤ t2 := Nat.le_trans (Keep.refl h0 [a]).1 gt2
  show Wp _ _ _ _ (T.setTop (mkF _ _ _ [(.ref t2), (.ref a)]))
  have f2 := (Ea.keep Kc2)
  have f3 := (F1.keep Kc2 (List.not_mem_nil))
  refine w_putF X k68_9_35 (host := "") (Or.inl (wd_52 hw)) Via.refl f3 f2 (Or.inl (wd_53 hw)) (wd_39 hw) (ty := (.array .byte)) (by decide) rfl rfl ga (fun T h3 X W3 => ?_)
  have f4 := f3.same W3
  have K5 : Keep h0 h3 [a] := K1.wr W3 (Or.inl (List.mem_of_getElem? (i := 0) rfl))
  have f6 := (f2.wr W3)
  have f7 := ((F2.keep Kc2 (List.not_mem_nil)).other W3 (Or.inr (slot_ne (Or.inl (wd_55 hw)) (Or.inl (wd_53 hw)) (by decide) (t := .byte) (t' := (.array .byte)) (by decide) (by decide))))
  have f8 := ((F3.keep Kc2 (List.not_mem_nil)).other W3 (Or.inr (slot_ne (Or.inl (wd_79 hw)) (Or.inl (wd_53 hw)) (by decide) (t := .int) (t' := (.array .byte)) (by decide) (by decide))))
  have f9 := (At2.other W3 (Ne.symm (nel (ltl Ea.lt gt2))))
  have f10 := (Et2.wr W3)
  exact w_retV X k68_9_38 ⟨rfl, K5, _, sz_t2, gn2, ⟨f6, f4, f7, f8, f9⟩, f10⟩ (by decide) (by decide)
theorem m_nl_18 (hw : own_hw a0 Z) {h0 : Heap}   :
    Does l Z n0 ⟨"jdk/internal/util/ArraysSupport", "newLength", "(III)I"⟩ jdk_48_method_27_code 4 (some .int) [] { frames := 1, cells := 0, slots := 0, locals := 14 } #[(.int 16), (.int 2), (.int 18)] h0 (fun v h => v = some (.int 34) ∧ h0 = h) := by
  refine Does.start (plainFor_of_name pn_8) ?_
  intro p e s m below meth c T X
  replace X : Sd _ _ _ _ _ "jdk/internal/util/ArraysSupport" "newLength" _ _ _ _ _ _ _ _ _ _ _ _ _ _ _ _ := X
  refine Wp.cast (g' := mkF m 0 #[.val (.int 16), .val (.int 2), .val (.int 18), .unset] []) (by first | (simp [entryFrame, mkF, argsToLocals, Value.category, maxLocals]; done) | rfl) ?_
  refine w_iloadN X k48_27_0 rfl ?_
  refine w_iloadN X k48_27_1 rfl ?_
  refine w_iloadN X k48_27_2 rfl ?_
  refine w_callS X k48_27_3 (wd_264 hw) (wd_265 hw) (wd_266 hw) (wd_267 hw) (by decide) (argsL := [(.int 2), (.int 18)]) (S := [(.int 16)]) (m_max hw (r := (18 : Int32)) (by decide)) pd_12 rfl rfl rfl (by decide) (leR rfl) (by decide) (by decide) (fun T h1 v1 L1 X q1 => ?_)
  obtain ⟨rfl, rfl⟩ := q1
  show Wp _ _ _ _ (T.setTop (mkF _ _ _ [(.int 18), (.int 16)]))
  refine w_iadd X k48_27_6 ?_
  refine w_istoreN X #[.val (.int 16), .val (.int 2), .val (.int 18), .val (.int 34)] k48_27_7 rfl ?_
  refine w_iconst X (0 : Int32) k48_27_8 rfl ?_
  refine w_iloadN X k48_27_9 rfl ?_
  refine w_icmpge X k48_27_10 (fun hc => absurd (by decide) hc) (fun _ => ?_)
  refine w_iloadN X k48_27_13 rfl ?_
  refine w_ldcI X k48_27_14 (wd_268 hw) ?_
  refine w_icmpgt X k48_27_16 (fun hc => absurd hc (by decide)) (fun _ => ?_)
  refine w_iloadN X k48_27_19 rfl ?_
  exact w_retI X k48_27_20 ⟨rfl, rfl⟩ (by decide) (by decide)
theorem m_ncp_18 (hw : own_hw a0 Z) {h0 : Heap} {a d : Addr} {zs : List Value} (F1 : Fld Z h0 a "java/lang/AbstractStringBuilder" "value" "[B" (.ref d)) (F2 : Fld Z h0 a "java/lang/AbstractStringBuilder" "coder" "B" (.int 0)) (Ad : Ary Z h0 d .byte zs) (hz : zs.length.toInt32 = (16 : Int32)) :
    Does l Z n0 ⟨"java/lang/AbstractStringBuilder", "newCapacity", "(I)I"⟩ jdk_68_method_10_code 6 (some .int) [] { frames := 2, cells := 0, slots := 0, locals := 29 } #[(.ref a), (.int 18)] h0 (fun v h => v = some (.int 34) ∧ h0 = h) := by
  refine Does.start (plainFor_of_name pn_4) ?_
  intro p e s m below meth c T X
  replace X : Sd _ _ _ _ _ "java/lang/AbstractStringBuilder" "newCapacity" _ _ _ _ _ _ _ _ _ _ _ _ _ _ _ _ := X
  refine Wp.cast (g' := mkF m 0 #[.val (.ref a), .val (.int 18), .unset, .unset, .unset, .unset] []) (by first | (simp [entryFrame, mkF, argsToLocals, Value.category, maxLocals]; done) | rfl) ?_
  refine w_aloadN X k68_10_0 rfl (rfl) ?_
  refine w_getF X k68_10_1 (host := "") (Or.inl (wd_52 hw)) Via.refl F1 (fun T X => ?_)
  refine w_arrlen X (16 : Int32) k68_10_4 Ad hz ?_
  refine w_istoreN X #[.val (.ref a), .val (.int 18), .val (.int 16), .unset, .unset, .unset] k68_10_5 rfl ?_
  refine w_iloadN X k68_10_6 rfl ?_
  refine w_aloadN X k68_10_7 rfl (rfl) ?_
  refine w_getF X k68_10_8 (host := "") (Or.inl (wd_54 hw)) Via.refl F2 (fun T X => ?_)
  refine w_ishl X k68_10_11 ?_
  refine w_istoreN X #[.val (.ref a), .val (.int 18), .val (.int 16), .val (.int 18), .unset, .unset] k68_10_12 rfl ?_
  refine w_iloadN X k68_10_13 rfl ?_
  refine w_iloadN X k68_10_14 rfl ?_
  refine w_isub X k68_10_15 ?_
  refine w_istore X #[.val (.ref a), .val (.int 18), .val (.int 16), .val (.int 18), .val (.int 2), .unset] k68_10_16 rfl ?_
  refine w_iloadN X k68_10_18 rfl ?_
  refine w_iload X k68_10_19 rfl ?_
  refine w_iloadN X k68_10_21 rfl ?_
  refine w_iconst X (2 : Int32) k68_10_22 rfl ?_
  refine w_aloadN X k68_10_23 rfl (rfl) ?_
  refine w_getF X k68_10_24 (host := "") (Or.inl (wd_54 hw)) Via.refl F2 (fun T X => ?_)
  refine w_ishl X k68_10_27 ?_
  refine w_iadd X k68_10_28 ?_
  refine w_callS X k68_10_29 (wd_260 hw) (wd_261 hw) (wd_262 hw) (wd_263 hw) (by decide) (argsL := [(.int 16), (.int 2), (.int 18)]) (S := []) (m_nl_18 hw) pd_13 rfl rfl rfl (by decide) (leR rfl) (by decide) (by decide) (fun T h1 v1 L1 X q1 => ?_)
  obtain ⟨rfl, rfl⟩ := q1
  show Wp _ _ _ _ (T.setTop (mkF _ _ _ [(.int 34)]))
  refine w_istore X #[.val (.ref a), .val (.int 18), .val (.int 16), .val (.int 18), .val (.int 2), .val (.int 34)] k68_10_32 rfl ?_
  refine w_iload X k68_10_34 rfl ?_
  refine w_ldcI X k68_10_36 (wd_269 hw) ?_
  refine w_icmpne X k68_10_38 (fun _ => ?_) (fun hc => absurd hc (by decide))
  refine w_iload X k68_10_51 rfl ?_
  refine w_aloadN X k68_10_53 rfl (rfl) ?_
  refine w_getF X k68_10_54 (host := "") (Or.inl (wd_54 hw)) Via.refl F2 (fun T X => ?_)
  refine w_ishr X k68_10_57 ?_
  exact w_retI X k68_10_58 ⟨rfl, rfl⟩ (by decide) (by decide)
theorem m_ec1_18 (hw : own_hw a0 Z) {h0 : Heap} {a d : Addr} {zs : List Value} {k : Int32} (ga : n0 ≤ a) (Ea : Exa Z h0 a "java/lang/StringBuilder") (F1 : Fld Z h0 a "java/lang/AbstractStringBuilder" "value" "[B" (.ref d)) (F2 : Fld Z h0 a "java/lang/AbstractStringBuilder" "coder" "B" (.int 0)) (F3 : Fld Z h0 a "java/lang/AbstractStringBuilder" "count" "I" (.int k)) (Ad : Ary Z h0 d .byte zs) (hz : zs.length.toInt32 = (16 : Int32)) (hzn : zs.length = 16) :
    Does l Z n0 ⟨"java/lang/AbstractStringBuilder", "ensureCapacityInternal", "(I)V"⟩ jdk_68_method_9_code 3 none [] { frames := 3, cells := 1, slots := 34, locals := 55 } #[(.ref a), (.int 18)] h0 (fun v h => v = none ∧ Keep h0 h [a] ∧ ∃ d, h0.size ≤ d ∧ n0 ≤ d ∧ Bld Z h a d k (own_spl (List.replicate 34 (.int 0)) 0 zs) ∧ Exa Z h d "[B") := by
  refine Does.start (plainFor_of_name pn_4) ?_
  intro p e s m below meth c T X
  replace X : Sd _ _ _ _ _ "java/lang/AbstractStringBuilder" "ensureCapacityInternal" _ _ _ _ _ _ _ _ _ _ _ _ _ _ _ _ := X
  refine Wp.cast (g' := mkF m 0 #[.val (.ref a), .val (.int 18), .unset] []) (by first | (simp [entryFrame, mkF, argsToLocals, Value.category, maxLocals]; done) | rfl) ?_
  refine w_aloadN X k68_9_0 rfl (rfl) ?_
  refine w_getF X k68_9_1 (host := "") (Or.inl (wd_52 hw)) Via.refl F1 (fun T X => ?_)
  refine w_arrlen X (16 : Int32) k68_9_4 Ad hz ?_
  refine w_aloadN X k68_9_5 rfl (rfl) ?_
  refine w_getF X k68_9_6 (host := "") (Or.inl (wd_54 hw)) Via.refl F2 (fun T X => ?_)
  refine w_ishr X k68_9_9 ?_
  refine w_istoreN X #[.val (.ref a), .val (.int 18), .val (.int 16)] k68_9_10 rfl ?_
  refine w_iloadN X k68_9_11 rfl ?_
  refine w_iloadN X k68_9_12 rfl ?_
  refine w_isub X k68_9_13 ?_
  refine w_ifle X k68_9_14 (fun hc => absurd (by decide) hc) (fun _ => ?_)
  refine w_aloadN X k68_9_17 rfl (rfl) ?_
  refine w_aloadN X k68_9_18 rfl (rfl) ?_
  refine w_getF X k68_9_19 (host := "") (Or.inl (wd_52 hw)) Via.refl F1 (fun T X => ?_)
  refine w_aloadN X k68_9_22 rfl (rfl) ?_
  refine w_iloadN X k68_9_23 rfl ?_
  refine w_callP X k68_9_24 (wd_255 hw) (wd_256 hw) (own_selP (wd_258 hw) (wd_257 hw) (wd_256 hw) (by decide)) (wd_257 hw) (wd_48 hw) (wd_259 hw) (by decide) Ea (argsL := [(.int 18)]) (S := [(.ref d), (.ref a)]) (m_ncp_18 hw F1 F2 Ad hz) pd_14 rfl rfl rfl (by decide) (leR rfl) (by decide) (by decide) (fun T h1 v1 L1 X q1 => ?_)
  obtain ⟨rfl, rfl⟩ := q1
  show Wp _ _ _ _ (T.setTop (mkF _ _ _ [(.int 34), (.ref d), (.ref a)]))
  refine w_aloadN X k68_9_27 rfl (rfl) ?_
  refine w_getF X k68_9_28 (host := "") (Or.inl (wd_54 hw)) Via.refl F2 (fun T X => ?_)
  refine w_ishl X k68_9_31 ?_
  refine w_callS X k68_9_32 (wd_270 hw) (wd_271 hw) (wd_138 hw) (wd_272 hw) (by decide) (argsL := [(.ref d), (.int 34)]) (S := [(.ref a)]) (m_cpG hw Ad hz hzn) pd_15 rfl rfl rfl (by decide) (leR rfl) (by decide) (by decide) (fun T h2 v2 L2 X q2 => ?_)
  obtain ⟨t2, rfl, gt2, gn2, At2, Et2, Kc2⟩ := q2
  have K1 : Keep h0 h2 [a] := (Keep.refl h0 [a]).trans Kc2 (fun x hx => nomatch hx)
  have sz_t2 : h0.size ≤ t2 := Nat.le_trans (Keep.refl h0 [a]).1 gt2
  show Wp _ _ _ _ (T.setTop (mkF _ _ _ [(.ref t2), (.ref a)]))
  have f2 := (Ea.keep Kc2)
  have f3 := (F1.keep Kc2 (List.not_mem_nil))
  refine w_putF X k68_9_35 (host := "") (Or.inl (wd_52 hw)) Via.refl f3 f2 (Or.inl (wd_53 hw)) (wd_39 hw) (ty := (.array .byte)) (by decide) rfl rfl ga (fun T h3 X W3 => ?_)
  have f4 := f3.same W3
  have K5 : Keep h0 h3 [a] := K1.wr W3 (Or.inl (List.mem_of_getElem? (i := 0) rfl))
  have f6 := (f2.wr W3)
  have f7 := ((F2.keep Kc2 (List.not_mem_nil)).other W3 (Or.inr (slot_ne (Or.inl (wd_55 hw)) (Or.inl (wd_53 hw)) (by decide) (t := .byte) (t' := (.array .byte)) (by decide) (by decide))))
  have f8 := ((F3.keep Kc2 (List.not_mem_nil)).other W3 (Or.inr (slot_ne (Or.inl (wd_79 hw)) (Or.inl (wd_53 hw)) (by decide) (t := .int) (t' := (.array .byte)) (by decide) (by decide))))
  have f9 := (At2.other W3 (Ne.symm (nel (ltl Ea.lt gt2))))
  have f10 := (Et2.wr W3)
  exact w_retV X k68_9_38 ⟨rfl, K5, _, sz_t2, gn2, ⟨f6, f4, f7, f8, f9⟩, f10⟩ (by decide) (by decide)
theorem m_nl_19 (hw : own_hw a0 Z) {h0 : Heap}   :
    Does l Z n0 ⟨"jdk/internal/util/ArraysSupport", "newLength", "(III)I"⟩ jdk_48_method_27_code 4 (some .int) [] { frames := 1, cells := 0, slots := 0, locals := 14 } #[(.int 16), (.int 3), (.int 18)] h0 (fun v h => v = some (.int 34) ∧ h0 = h) := by
  refine Does.start (plainFor_of_name pn_8) ?_
  intro p e s m below meth c T X
  replace X : Sd _ _ _ _ _ "jdk/internal/util/ArraysSupport" "newLength" _ _ _ _ _ _ _ _ _ _ _ _ _ _ _ _ := X
  refine Wp.cast (g' := mkF m 0 #[.val (.int 16), .val (.int 3), .val (.int 18), .unset] []) (by first | (simp [entryFrame, mkF, argsToLocals, Value.category, maxLocals]; done) | rfl) ?_
  refine w_iloadN X k48_27_0 rfl ?_
  refine w_iloadN X k48_27_1 rfl ?_
  refine w_iloadN X k48_27_2 rfl ?_
  refine w_callS X k48_27_3 (wd_264 hw) (wd_265 hw) (wd_266 hw) (wd_267 hw) (by decide) (argsL := [(.int 3), (.int 18)]) (S := [(.int 16)]) (m_max hw (r := (18 : Int32)) (by decide)) pd_12 rfl rfl rfl (by decide) (leR rfl) (by decide) (by decide) (fun T h1 v1 L1 X q1 => ?_)
  obtain ⟨rfl, rfl⟩ := q1
  show Wp _ _ _ _ (T.setTop (mkF _ _ _ [(.int 18), (.int 16)]))
  refine w_iadd X k48_27_6 ?_
  refine w_istoreN X #[.val (.int 16), .val (.int 3), .val (.int 18), .val (.int 34)] k48_27_7 rfl ?_
  refine w_iconst X (0 : Int32) k48_27_8 rfl ?_
  refine w_iloadN X k48_27_9 rfl ?_
  refine w_icmpge X k48_27_10 (fun hc => absurd (by decide) hc) (fun _ => ?_)
  refine w_iloadN X k48_27_13 rfl ?_
  refine w_ldcI X k48_27_14 (wd_268 hw) ?_
  refine w_icmpgt X k48_27_16 (fun hc => absurd hc (by decide)) (fun _ => ?_)
  refine w_iloadN X k48_27_19 rfl ?_
  exact w_retI X k48_27_20 ⟨rfl, rfl⟩ (by decide) (by decide)
theorem m_ncp_19 (hw : own_hw a0 Z) {h0 : Heap} {a d : Addr} {zs : List Value} (F1 : Fld Z h0 a "java/lang/AbstractStringBuilder" "value" "[B" (.ref d)) (F2 : Fld Z h0 a "java/lang/AbstractStringBuilder" "coder" "B" (.int 0)) (Ad : Ary Z h0 d .byte zs) (hz : zs.length.toInt32 = (16 : Int32)) :
    Does l Z n0 ⟨"java/lang/AbstractStringBuilder", "newCapacity", "(I)I"⟩ jdk_68_method_10_code 6 (some .int) [] { frames := 2, cells := 0, slots := 0, locals := 29 } #[(.ref a), (.int 19)] h0 (fun v h => v = some (.int 34) ∧ h0 = h) := by
  refine Does.start (plainFor_of_name pn_4) ?_
  intro p e s m below meth c T X
  replace X : Sd _ _ _ _ _ "java/lang/AbstractStringBuilder" "newCapacity" _ _ _ _ _ _ _ _ _ _ _ _ _ _ _ _ := X
  refine Wp.cast (g' := mkF m 0 #[.val (.ref a), .val (.int 19), .unset, .unset, .unset, .unset] []) (by first | (simp [entryFrame, mkF, argsToLocals, Value.category, maxLocals]; done) | rfl) ?_
  refine w_aloadN X k68_10_0 rfl (rfl) ?_
  refine w_getF X k68_10_1 (host := "") (Or.inl (wd_52 hw)) Via.refl F1 (fun T X => ?_)
  refine w_arrlen X (16 : Int32) k68_10_4 Ad hz ?_
  refine w_istoreN X #[.val (.ref a), .val (.int 19), .val (.int 16), .unset, .unset, .unset] k68_10_5 rfl ?_
  refine w_iloadN X k68_10_6 rfl ?_
  refine w_aloadN X k68_10_7 rfl (rfl) ?_
  refine w_getF X k68_10_8 (host := "") (Or.inl (wd_54 hw)) Via.refl F2 (fun T X => ?_)
  refine w_ishl X k68_10_11 ?_
  refine w_istoreN X #[.val (.ref a), .val (.int 19), .val (.int 16), .val (.int 19), .unset, .unset] k68_10_12 rfl ?_
  refine w_iloadN X k68_10_13 rfl ?_
  refine w_iloadN X k68_10_14 rfl ?_
  refine w_isub X k68_10_15 ?_
  refine w_istore X #[.val (.ref a), .val (.int 19), .val (.int 16), .val (.int 19), .val (.int 3), .unset] k68_10_16 rfl ?_
  refine w_iloadN X k68_10_18 rfl ?_
  refine w_iload X k68_10_19 rfl ?_
  refine w_iloadN X k68_10_21 rfl ?_
  refine w_iconst X (2 : Int32) k68_10_22 rfl ?_
  refine w_aloadN X k68_10_23 rfl (rfl) ?_
  refine w_getF X k68_10_24 (host := "") (Or.inl (wd_54 hw)) Via.refl F2 (fun T X => ?_)
  refine w_ishl X k68_10_27 ?_
  refine w_iadd X k68_10_28 ?_
  refine w_callS X k68_10_29 (wd_260 hw) (wd_261 hw) (wd_262 hw) (wd_263 hw) (by decide) (argsL := [(.int 16), (.int 3), (.int 18)]) (S := []) (m_nl_19 hw) pd_13 rfl rfl rfl (by decide) (leR rfl) (by decide) (by decide) (fun T h1 v1 L1 X q1 => ?_)
  obtain ⟨rfl, rfl⟩ := q1
  show Wp _ _ _ _ (T.setTop (mkF _ _ _ [(.int 34)]))
  refine w_istore X #[.val (.ref a), .val (.int 19), .val (.int 16), .val (.int 19), .val (.int 3), .val (.int 34)] k68_10_32 rfl ?_
  refine w_iload X k68_10_34 rfl ?_
  refine w_ldcI X k68_10_36 (wd_269 hw) ?_
  refine w_icmpne X k68_10_38 (fun _ => ?_) (fun hc => absurd hc (by decide))
  refine w_iload X k68_10_51 rfl ?_
  refine w_aloadN X k68_10_53 rfl (rfl) ?_
  refine w_getF X k68_10_54 (host := "") (Or.inl (wd_54 hw)) Via.refl F2 (fun T X => ?_)
  refine w_ishr X k68_10_57 ?_
  exact w_retI X k68_10_58 ⟨rfl, rfl⟩ (by decide) (by decide)
theorem m_ec1_19 (hw : own_hw a0 Z) {h0 : Heap} {a d : Addr} {zs : List Value} {k : Int32} (ga : n0 ≤ a) (Ea : Exa Z h0 a "java/lang/StringBuilder") (F1 : Fld Z h0 a "java/lang/AbstractStringBuilder" "value" "[B" (.ref d)) (F2 : Fld Z h0 a "java/lang/AbstractStringBuilder" "coder" "B" (.int 0)) (F3 : Fld Z h0 a "java/lang/AbstractStringBuilder" "count" "I" (.int k)) (Ad : Ary Z h0 d .byte zs) (hz : zs.length.toInt32 = (16 : Int32)) (hzn : zs.length = 16) :
    Does l Z n0 ⟨"java/lang/AbstractStringBuilder", "ensureCapacityInternal", "(I)V"⟩ jdk_68_method_9_code 3 none [] { frames := 3, cells := 1, slots := 34, locals := 55 } #[(.ref a), (.int 19)] h0 (fun v h => v = none ∧ Keep h0 h [a] ∧ ∃ d, h0.size ≤ d ∧ n0 ≤ d ∧ Bld Z h a d k (own_spl (List.replicate 34 (.int 0)) 0 zs) ∧ Exa Z h d "[B") := by
  refine Does.start (plainFor_of_name pn_4) ?_
  intro p e s m below meth c T X
  replace X : Sd _ _ _ _ _ "java/lang/AbstractStringBuilder" "ensureCapacityInternal" _ _ _ _ _ _ _ _ _ _ _ _ _ _ _ _ := X
  refine Wp.cast (g' := mkF m 0 #[.val (.ref a), .val (.int 19), .unset] []) (by first | (simp [entryFrame, mkF, argsToLocals, Value.category, maxLocals]; done) | rfl) ?_
  refine w_aloadN X k68_9_0 rfl (rfl) ?_
  refine w_getF X k68_9_1 (host := "") (Or.inl (wd_52 hw)) Via.refl F1 (fun T X => ?_)
  refine w_arrlen X (16 : Int32) k68_9_4 Ad hz ?_
  refine w_aloadN X k68_9_5 rfl (rfl) ?_
  refine w_getF X k68_9_6 (host := "") (Or.inl (wd_54 hw)) Via.refl F2 (fun T X => ?_)
  refine w_ishr X k68_9_9 ?_
  refine w_istoreN X #[.val (.ref a), .val (.int 19), .val (.int 16)] k68_9_10 rfl ?_
  refine w_iloadN X k68_9_11 rfl ?_
  refine w_iloadN X k68_9_12 rfl ?_
  refine w_isub X k68_9_13 ?_
  refine w_ifle X k68_9_14 (fun hc => absurd (by decide) hc) (fun _ => ?_)
  refine w_aloadN X k68_9_17 rfl (rfl) ?_
  refine w_aloadN X k68_9_18 rfl (rfl) ?_
  refine w_getF X k68_9_19 (host := "") (Or.inl (wd_52 hw)) Via.refl F1 (fun T X => ?_)
  refine w_aloadN X k68_9_22 rfl (rfl) ?_
  refine w_iloadN X k68_9_23 rfl ?_
  refine w_callP X k68_9_24 (wd_255 hw) (wd_256 hw) (own_selP (wd_258 hw) (wd_257 hw) (wd_256 hw) (by decide)) (wd_257 hw) (wd_48 hw) (wd_259 hw) (by decide) Ea (argsL := [(.int 19)]) (S := [(.ref d), (.ref a)]) (m_ncp_19 hw F1 F2 Ad hz) pd_14 rfl rfl rfl (by decide) (leR rfl) (by decide) (by decide) (fun T h1 v1 L1 X q1 => ?_)
  obtain ⟨rfl, rfl⟩ := q1
  show Wp _ _ _ _ (T.setTop (mkF _ _ _ [(.int 34), (.ref d), (.ref a)]))
  refine w_aloadN X k68_9_27 rfl (rfl) ?_
  refine w_getF X k68_9_28 (host := "") (Or.inl (wd_54 hw)) Via.refl F2 (fun T X => ?_)
  refine w_ishl X k68_9_31 ?_
  refine w_callS X k68_9_32 (wd_270 hw) (wd_271 hw) (wd_138 hw) (wd_272 hw) (by decide) (argsL := [(.ref d), (.int 34)]) (S := [(.ref a)]) (m_cpG hw Ad hz hzn) pd_15 rfl rfl rfl (by decide) (leR rfl) (by decide) (by decide) (fun T h2 v2 L2 X q2 => ?_)
  obtain ⟨t2, rfl, gt2, gn2, At2, Et2, Kc2⟩ := q2
  have K1 : Keep h0 h2 [a] := (Keep.refl h0 [a]).trans Kc2 (fun x hx => nomatch hx)
  have sz_t2 : h0.size ≤ t2 := Nat.le_trans (Keep.refl h0 [a]).1 gt2
  show Wp _ _ _ _ (T.setTop (mkF _ _ _ [(.ref t2), (.ref a)]))
  have f2 := (Ea.keep Kc2)
  have f3 := (F1.keep Kc2 (List.not_mem_nil))
  refine w_putF X k68_9_35 (host := "") (Or.inl (wd_52 hw)) Via.refl f3 f2 (Or.inl (wd_53 hw)) (wd_39 hw) (ty := (.array .byte)) (by decide) rfl rfl ga (fun T h3 X W3 => ?_)
  have f4 := f3.same W3
  have K5 : Keep h0 h3 [a] := K1.wr W3 (Or.inl (List.mem_of_getElem? (i := 0) rfl))
  have f6 := (f2.wr W3)
  have f7 := ((F2.keep Kc2 (List.not_mem_nil)).other W3 (Or.inr (slot_ne (Or.inl (wd_55 hw)) (Or.inl (wd_53 hw)) (by decide) (t := .byte) (t' := (.array .byte)) (by decide) (by decide))))
  have f8 := ((F3.keep Kc2 (List.not_mem_nil)).other W3 (Or.inr (slot_ne (Or.inl (wd_79 hw)) (Or.inl (wd_53 hw)) (by decide) (t := .int) (t' := (.array .byte)) (by decide) (by decide))))
  have f9 := (At2.other W3 (Ne.symm (nel (ltl Ea.lt gt2))))
  have f10 := (Et2.wr W3)
  exact w_retV X k68_9_38 ⟨rfl, K5, _, sz_t2, gn2, ⟨f6, f4, f7, f8, f9⟩, f10⟩ (by decide) (by decide)
theorem m_iin (hw : own_hw a0 Z) {h0 : Heap} {zc : Int32} {fm : Value} {a b : Addr} (hS : own_S Z zc fm) (F2 : Fld Z h0 a "java/lang/AbstractStringBuilder" "coder" "B" (.int 0)) (Eb : Exa Z h0 b "java/lang/String") (Cb : Fld Z h0 b "java/lang/String" "coder" "B" (.int 0)) :
    Does l Z n0 ⟨"java/lang/AbstractStringBuilder", "inflateIfNeededFor", "(Ljava/lang/String;)V"⟩ jdk_68_method_71_code 2 none [] { frames := 1, cells := 0, slots := 0, locals := 13 } #[(.ref a), (.ref b)] h0 (fun v h => v = none ∧ h0 = h) := by
  refine Does.start (plainFor_of_name pn_4) ?_
  obtain ⟨S_zc, hzc, S_fm, hfm⟩ := id hS
  intro p e s m below meth c T X
  replace X : Sd _ _ _ _ _ "java/lang/AbstractStringBuilder" "inflateIfNeededFor" _ _ _ _ _ _ _ _ _ _ _ _ _ _ _ _ := X
  refine Wp.cast (g' := mkF m 0 #[.val (.ref a), .val (.ref b)] []) (by first | (simp [entryFrame, mkF, argsToLocals, Value.category, maxLocals]; done) | rfl) ?_
  refine w_getS X k68_71_0 (host := "") (Or.inl (wd_51 hw)) Via.refl (S_zc.ext X.old.2) (fun T X => ?_)
  refine w_ifeq X k68_71_3 (fun hc => absurd hc hzc) (fun _ => ?_)
  refine w_aloadN X k68_71_6 rfl (rfl) ?_
  refine w_getF X k68_71_7 (host := "") (Or.inl (wd_54 hw)) Via.refl F2 (fun T X => ?_)
  refine w_aloadN X k68_71_10 rfl (rfl) ?_
  refine w_callV X k68_71_11 (wd_95 hw) (wd_73 hw) (nfs X.hZ (wd_75 hw)) (wd_75 hw) (wd_74 hw) (wd_9 hw) (wd_76 hw) (by decide) Eb (argsL := []) (S := [(.int 0)]) (m_cdr hw hS Cb) pd_11 rfl rfl rfl (by decide) (leR rfl) (by decide) (by decide) (fun T h1 v1 L1 X q1 => ?_)
  obtain ⟨rfl, rfl⟩ := q1
  show Wp _ _ _ _ (T.setTop (mkF _ _ _ [(.int 0), (.int 0)]))
  refine w_icmpeq X k68_71_14 (fun _ => ?_) (fun hc => absurd rfl hc)
  exact w_retV X k68_71_21 ⟨rfl, rfl⟩ (by decide) (by decide)
theorem m_gby (hw : own_hw a0 Z) {h0 : Heap} {zc : Int32} {fm : Value} {b d t : Addr} {ws zs : List Value} {k n : Int32} (hS : own_S Z zc fm) (Eb : Exa Z h0 b "java/lang/String") (Cb : Fld Z h0 b "java/lang/String" "coder" "B" (.int 0)) (Vb : Fld Z h0 b "java/lang/String" "value" "[B" (.ref t)) (At : Ary Z h0 t .byte ws) (gd : n0 ≤ d) (Ad : Ary Z h0 d .byte zs) (hn : ws.length.toInt32 = n) (hk : ¬ k < 0) (hle : k.toNatClampNeg + ws.length ≤ zs.length) :
    Does l Z n0 ⟨"java/lang/String", "getBytes", "([BIB)V"⟩ jdk_42_method_147_code 4 none [] { frames := 1, cells := 0, slots := 0, locals := 40 } #[(.ref b), (.ref d), (.int k), (.int 0)] h0 (fun v h => v = none ∧ Keep h0 h [d] ∧ Ary Z h d .byte (own_spl zs k.toNatClampNeg ws)) := by
  refine Does.start (plainFor_of_name pn_0) ?_
  obtain ⟨S_zc, hzc, S_fm, hfm⟩ := id hS
  intro p e s m below meth c T X
  replace X : Sd _ _ _ _ _ "java/lang/String" "getBytes" _ _ _ _ _ _ _ _ _ _ _ _ _ _ _ _ := X
  refine Wp.cast (g' := mkF m 0 #[.val (.ref b), .val (.ref d), .val (.int k), .val (.int 0)] []) (by first | (simp [entryFrame, mkF, argsToLocals, Value.category, maxLocals]; done) | rfl) ?_
  refine w_aloadN X k42_147_0 rfl (rfl) ?_
  refine w_callV X k42_147_1 (wd_72 hw) (wd_73 hw) (nfs X.hZ (wd_75 hw)) (wd_75 hw) (wd_74 hw) (wd_9 hw) (wd_76 hw) (by decide) Eb (argsL := []) (S := []) (m_cdr hw hS Cb) pd_11 rfl rfl rfl (by decide) (leR rfl) (by decide) (by decide) (fun T h1 v1 L1 X q1 => ?_)
  obtain ⟨rfl, rfl⟩ := q1
  show Wp _ _ _ _ (T.setTop (mkF _ _ _ [(.int 0)]))
  refine w_iloadN X k42_147_4 rfl ?_
  refine w_icmpne X k42_147_5 (fun hc => absurd rfl hc) (fun _ => ?_)
  refine w_aloadN X k42_147_8 rfl (rfl) ?_
  refine w_getF X k42_147_9 (host := "") (Or.inl (wd_27 hw)) Via.refl Vb (fun T X => ?_)
  refine w_iconst X (0 : Int32) k42_147_12 rfl ?_
  refine w_aloadN X k42_147_13 rfl (rfl) ?_
  refine w_iloadN X k42_147_14 rfl ?_
  refine w_iloadN X k42_147_15 rfl ?_
  refine w_ishl X k42_147_16 ?_
  refine w_aloadN X k42_147_17 rfl (rfl) ?_
  refine w_getF X k42_147_18 (host := "") (Or.inl (wd_27 hw)) Via.refl Vb (fun T X => ?_)
  refine w_arrlen X n k42_147_21 At hn ?_
  refine w_cpM X k42_147_22 (wd_101 hw) (wd_104 hw) (wd_102 hw) (wd_103 hw) rfl At Ad gd (by rw [own_shl0]; exact hk) hn (by rw [own_shl0]; exact hle) rfl (by decide) (leR rfl) (fun T h2 L2 X Kc2 A2 => ?_)
  have K1 : Keep h0 h2 [d] := (Keep.refl h0 [d]).trans Kc2 (fun x hx => by cases List.mem_singleton.mp hx; exact (Or.inl (List.mem_of_getElem? (i := 0) rfl)))
  refine w_goto X k42_147_25 ?_
  exact w_retV X k42_147_43 ⟨rfl, K1, (by rw [← own_shl0 k]; exact A2)⟩ (by decide) (by decide)
theorem m_psa (hw : own_hw a0 Z) {h0 : Heap} {zc : Int32} {fm : Value} {a b d t : Addr} {ws zs : List Value} {k n : Int32} (hS : own_S Z zc fm) (Ea : Exa Z h0 a "java/lang/StringBuilder") (F1 : Fld Z h0 a "java/lang/AbstractStringBuilder" "value" "[B" (.ref d)) (F2 : Fld Z h0 a "java/lang/AbstractStringBuilder" "coder" "B" (.int 0)) (Eb : Exa Z h0 b "java/lang/String") (Cb : Fld Z h0 b "java/lang/String" "coder" "B" (.int 0)) (Vb : Fld Z h0 b "java/lang/String" "value" "[B" (.ref t)) (At : Ary Z h0 t .byte ws) (gd : n0 ≤ d) (Ad : Ary Z h0 d .byte zs) (hn : ws.length.toInt32 = n) (hk : ¬ k < 0) (hle : k.toNatClampNeg + ws.length ≤ zs.length) :
    Does l Z n0 ⟨"java/lang/AbstractStringBuilder", "putStringAt", "(ILjava/lang/String;)V"⟩ jdk_68_method_73_code 3 none [] { frames := 2, cells := 0, slots := 0, locals := 55 } #[(.ref a), (.int k), (.ref b)] h0 (fun v h => v = none ∧ Keep h0 h [d] ∧ Ary Z h d .byte (own_spl zs k.toNatClampNeg ws)) := by
  refine Does.start (plainFor_of_name pn_4) ?_
  obtain ⟨S_zc, hzc, S_fm, hfm⟩ := id hS
  intro p e s m below meth c T X
  replace X : Sd _ _ _ _ _ "java/lang/AbstractStringBuilder" "putStringAt" _ _ _ _ _ _ _ _ _ _ _ _ _ _ _ _ := X
  refine Wp.cast (g' := mkF m 0 #[.val (.ref a), .val (.int k), .val (.ref b)] []) (by first | (simp [entryFrame, mkF, argsToLocals, Value.category, maxLocals]; done) | rfl) ?_
  refine w_aloadN X k68_73_0 rfl (rfl) ?_
  refine w_aloadN X k68_73_1 rfl (rfl) ?_
  refine w_callP X k68_73_2 (wd_90 hw) (wd_91 hw) (own_selP (wd_93 hw) (wd_92 hw) (wd_91 hw) (by decide)) (wd_92 hw) (wd_48 hw) (wd_94 hw) (by decide) Ea (argsL := [(.ref b)]) (S := []) (m_iin hw hS F2 Eb Cb) pd_16 rfl rfl rfl (by decide) (leR rfl) (by decide) (by decide) (fun T h1 v1 L1 X q1 => ?_)
  obtain ⟨rfl, rfl⟩ := q1
  show Wp _ _ _ _ (T.setTop (mkF _ _ _ []))
  refine w_aloadN X k68_73_5 rfl (rfl) ?_
  refine w_aloadN X k68_73_6 rfl (rfl) ?_
  refine w_getF X k68_73_7 (host := "") (Or.inl (wd_52 hw)) Via.refl F1 (fun T X => ?_)
  refine w_iloadN X k68_73_10 rfl ?_
  refine w_aloadN X k68_73_11 rfl (rfl) ?_
  refine w_getF X k68_73_12 (host := "") (Or.inl (wd_54 hw)) Via.refl F2 (fun T X => ?_)
  refine w_callV X k68_73_15 (wd_96 hw) (wd_97 hw) (nfs X.hZ (wd_99 hw)) (wd_99 hw) (wd_98 hw) (wd_9 hw) (wd_100 hw) (by decide) Eb (argsL := [(.ref d), (.int k), (.int 0)]) (S := []) (m_gby hw hS Eb Cb Vb At gd Ad hn hk hle) pd_17 rfl rfl rfl (by decide) (leR rfl) (by decide) (by decide) (fun T h2 v2 L2 X q2 => ?_)
  obtain ⟨rfl, Kc2, As2⟩ := q2
  have K1 : Keep h0 h2 [d] := (Keep.refl h0 [d]).trans Kc2 (fun x hx => by cases List.mem_singleton.mp hx; exact (Or.inl (List.mem_of_getElem? (i := 0) rfl)))
  show Wp _ _ _ _ (T.setTop (mkF _ _ _ []))
  exact w_retV X k68_73_18 ⟨rfl, K1, As2⟩ (by decide) (by decide)
theorem m_apA (hw : own_hw a0 Z) {h0 : Heap} {zc : Int32} {fm : Value} {a b d t : Addr} {ws zs : List Value} {k n cp : Int32} (hS : own_S Z zc fm) (ga : n0 ≤ a) (gd : n0 ≤ d) (Bd : Bld Z h0 a d k zs) (Tb : Lat Z h0 b t (0 : Int32) ws) (hz : zs.length.toInt32 = cp) (hm : ¬ (0 : Int32) < (k + n) - cp) (hn : ws.length.toInt32 = n) (hk : ¬ k < 0) (hle : k.toNatClampNeg + ws.length ≤ zs.length) :
    Does l Z n0 ⟨"java/lang/AbstractStringBuilder", "append", "(Ljava/lang/String;)Ljava/lang/AbstractStringBuilder;"⟩ jdk_68_method_22_code 3 (some (.object "java/lang/AbstractStringBuilder")) [] { frames := 3, cells := 0, slots := 0, locals := 69 } #[(.ref a), (.ref b)] h0 (fun v h => v = some (.ref a) ∧ Keep h0 h [a, d] ∧ Bld Z h a d (k + n) (own_spl zs k.toNatClampNeg ws)) := by
  refine Does.start (plainFor_of_name pn_4) ?_
  obtain ⟨S_zc, hzc, S_fm, hfm⟩ := id hS
  intro p e s m below meth c T X
  replace X : Sd _ _ _ _ _ "java/lang/AbstractStringBuilder" "append" _ _ _ _ _ _ _ _ _ _ _ _ _ _ _ _ := X
  refine Wp.cast (g' := mkF m 0 #[.val (.ref a), .val (.ref b), .unset] []) (by first | (simp [entryFrame, mkF, argsToLocals, Value.category, maxLocals]; done) | rfl) ?_
  have nad : a ≠ d := own_ane Bd.1 (wd_39 hw) Bd.2.2.2.2
  refine w_aloadN X k68_22_0 rfl (rfl) ?_
  refine w_ifnonnullT X k68_22_1 ?_
  refine w_aloadN X k68_22_9 rfl (rfl) ?_
  refine w_callV X k68_22_10 (wd_67 hw) (wd_68 hw) (nfs X.hZ (wd_70 hw)) (wd_70 hw) (wd_69 hw) (wd_9 hw) (wd_71 hw) (by decide) Tb.1 (argsL := []) (S := []) (m_lnG hw hS Tb.1 Tb.2.1 Tb.2.2.1 Tb.2.2.2 hn) pd_18 rfl rfl rfl (by decide) (leR rfl) (by decide) (by decide) (fun T h1 v1 L1 X q1 => ?_)
  obtain ⟨rfl, rfl⟩ := q1
  show Wp _ _ _ _ (T.setTop (mkF _ _ _ [(.int n)]))
  refine w_istoreN X #[.val (.ref a), .val (.ref b), .val (.int n)] k68_22_13 rfl ?_
  refine w_aloadN X k68_22_14 rfl (rfl) ?_
  refine w_aloadN X k68_22_15 rfl (rfl) ?_
  refine w_getF X k68_22_16 (host := "") (Or.inl (wd_78 hw)) Via.refl Bd.2.2.2.1 (fun T X => ?_)
  refine w_iloadN X k68_22_19 rfl ?_
  refine w_iadd X k68_22_20 ?_
  refine w_callP X k68_22_21 (wd_80 hw) (wd_81 hw) (own_selP (wd_83 hw) (wd_82 hw) (wd_81 hw) (by decide)) (wd_82 hw) (wd_48 hw) (wd_84 hw) (by decide) Bd.1 (argsL := [(.int (k + n))]) (S := []) (m_ec0 hw Bd.2.1 Bd.2.2.1 Bd.2.2.2.2 hz hm) pd_9 rfl rfl rfl (by decide) (leR rfl) (by decide) (by decide) (fun T h2 v2 L2 X q2 => ?_)
  obtain ⟨rfl, rfl⟩ := q2
  show Wp _ _ _ _ (T.setTop (mkF _ _ _ []))
  refine w_aloadN X k68_22_24 rfl (rfl) ?_
  refine w_aloadN X k68_22_25 rfl (rfl) ?_
  refine w_getF X k68_22_26 (host := "") (Or.inl (wd_78 hw)) Via.refl Bd.2.2.2.1 (fun T X => ?_)
  refine w_aloadN X k68_22_29 rfl (rfl) ?_
  refine w_callP X k68_22_30 (wd_85 hw) (wd_86 hw) (own_selP (wd_88 hw) (wd_87 hw) (wd_86 hw) (by decide)) (wd_87 hw) (wd_48 hw) (wd_89 hw) (by decide) Bd.1 (argsL := [(.int k), (.ref b)]) (S := []) (m_psa hw hS Bd.1 Bd.2.1 Bd.2.2.1 Tb.1 Tb.2.1 Tb.2.2.1 Tb.2.2.2 gd Bd.2.2.2.2 hn hk hle) pd_19 rfl rfl rfl (by decide) (leR rfl) (by decide) (by decide) (fun T h3 v3 L3 X q3 => ?_)
  obtain ⟨rfl, Kc3, As3⟩ := q3
  have K1 : Keep h0 h3 [a, d] := (Keep.refl h0 [a, d]).trans Kc3 (fun x hx => by cases List.mem_singleton.mp hx; exact (Or.inl (List.mem_of_getElem? (i := 1) rfl)))
  show Wp _ _ _ _ (T.setTop (mkF _ _ _ []))
  refine w_aloadN X k68_22_33 rfl (rfl) ?_
  refine w_dup X k68_22_34 rfl ?_
  have f2 := (Bd.2.2.2.1.keep Kc3 (ni1 nad))
  refine w_getF X k68_22_35 (host := "") (Or.inl (wd_78 hw)) Via.refl f2 (fun T X => ?_)
  refine w_iloadN X k68_22_38 rfl ?_
  refine w_iadd X k68_22_39 ?_
  have f3 := (Bd.1.keep Kc3)
  refine w_putF X k68_22_40 (host := "") (Or.inl (wd_78 hw)) Via.refl f2 f3 (Or.inl (wd_79 hw)) (wd_39 hw) (ty := .int) (by decide) rfl rfl ga (fun T h4 X W4 => ?_)
  have f4 := f2.same W4
  have K5 : Keep h0 h4 [a, d] := K1.wr W4 (Or.inl (List.mem_of_getElem? (i := 0) rfl))
  refine w_aloadN X k68_22_43 rfl (rfl) ?_
  have f6 := (f3.wr W4)
  have f7 := ((Bd.2.1.keep Kc3 (ni1 nad)).other W4 (Or.inr (slot_ne (Or.inl (wd_53 hw)) (Or.inl (wd_79 hw)) (by decide) (t := (.array .byte)) (t' := .int) (by decide) (by decide))))
  have f8 := ((Bd.2.2.1.keep Kc3 (ni1 nad)).other W4 (Or.inr (slot_ne (Or.inl (wd_55 hw)) (Or.inl (wd_79 hw)) (by decide) (t := .byte) (t' := .int) (by decide) (by decide))))
  have f9 := (As3.other W4 (Ne.symm nad))
  exact w_retR X rfl (rfl) rfl k68_22_44 ⟨rfl, K5, ⟨f6, f7, f8, f4, f9⟩⟩ (by decide) (by decide)
theorem m_app (hw : own_hw a0 Z) {h0 : Heap} {zc : Int32} {fm : Value} {a b d t : Addr} {ws zs : List Value} {k n cp : Int32} (hS : own_S Z zc fm) (ga : n0 ≤ a) (gd : n0 ≤ d) (Bd : Bld Z h0 a d k zs) (Tb : Lat Z h0 b t (0 : Int32) ws) (hz : zs.length.toInt32 = cp) (hm : ¬ (0 : Int32) < (k + n) - cp) (hn : ws.length.toInt32 = n) (hk : ¬ k < 0) (hle : k.toNatClampNeg + ws.length ≤ zs.length) :
    Does l Z n0 ⟨"java/lang/StringBuilder", "append", "(Ljava/lang/String;)Ljava/lang/StringBuilder;"⟩ jdk_67_method_7_code 2 (some (.object "java/lang/StringBuilder")) [] { frames := 4, cells := 0, slots := 0, locals := 83 } #[(.ref a), (.ref b)] h0 (fun v h => v = some (.ref a) ∧ Keep h0 h [a, d] ∧ Bld Z h a d (k + n) (own_spl zs k.toNatClampNeg ws)) := by
  refine Does.start (plainFor_of_name pn_5) ?_
  obtain ⟨S_zc, hzc, S_fm, hfm⟩ := id hS
  intro p e s m below meth c T X
  replace X : Sd _ _ _ _ _ "java/lang/StringBuilder" "append" _ _ _ _ _ _ _ _ _ _ _ _ _ _ _ _ := X
  refine Wp.cast (g' := mkF m 0 #[.val (.ref a), .val (.ref b)] []) (by first | (simp [entryFrame, mkF, argsToLocals, Value.category, maxLocals]; done) | rfl) ?_
  refine w_aloadN X k67_7_0 rfl (rfl) ?_
  refine w_aloadN X k67_7_1 rfl (rfl) ?_
  refine w_callSup X k67_7_2 (by decide) (wd_62 hw) (wd_63 hw) (wd_64 hw) (wd_48 hw) (wd_66 hw) (by decide) Bd.1 (argsL := [(.ref b)]) (S := []) (m_apA hw hS ga gd Bd Tb hz hm hn hk hle) pd_20 rfl rfl rfl (by decide) (leR rfl) (by decide) (by decide) (fun T h1 v1 L1 X q1 => ?_)
  obtain ⟨rfl, r1⟩ := q1
  show Wp _ _ _ _ (T.setTop (mkF _ _ _ [(.ref a)]))
  refine w_pop X k67_7_5 rfl ?_
  refine w_aloadN X k67_7_6 rfl (rfl) ?_
  exact w_retR X rfl (rfl) rfl k67_7_7 ⟨rfl, r1⟩ (by decide) (by decide)
theorem m_apG_14_3 (hw : own_hw a0 Z) {h0 : Heap} {zc : Int32} {fm : Value} {a b d t : Addr} {ws zs : List Value} (hS : own_S Z zc fm) (ga : n0 ≤ a) (gd : n0 ≤ d) (Bd : Bld Z h0 a d (14 : Int32) zs) (Tb : Lat Z h0 b t (0 : Int32) ws) (hn : ws.length.toInt32 = (3 : Int32)) (hwn : ws.length = 3) (hz : zs.length.toInt32 = (16 : Int32)) (hzn : zs.length = 16) :
    Does l Z n0 ⟨"java/lang/AbstractStringBuilder", "append", "(Ljava/lang/String;)Ljava/lang/AbstractStringBuilder;"⟩ jdk_68_method_22_code 3 (some (.object "java/lang/AbstractStringBuilder")) [] { frames := 4, cells := 1, slots := 34, locals := 69 } #[(.ref a), (.ref b)] h0 (fun v h => v = some (.ref a) ∧ Keep h0 h [a] ∧ ∃ d, h0.size ≤ d ∧ n0 ≤ d ∧ Bld Z h a d (17 : Int32) (own_spl (own_spl (List.replicate 34 (.int 0)) 0 zs) 14 ws) ∧ Exa Z h d "[B") := by
  refine Does.start (plainFor_of_name pn_4) ?_
  obtain ⟨S_zc, hzc, S_fm, hfm⟩ := id hS
  intro p e s m below meth c T X
  replace X : Sd _ _ _ _ _ "java/lang/AbstractStringBuilder" "append" _ _ _ _ _ _ _ _ _ _ _ _ _ _ _ _ := X
  refine Wp.cast (g' := mkF m 0 #[.val (.ref a), .val (.ref b), .unset] []) (by first | (simp [entryFrame, mkF, argsToLocals, Value.category, maxLocals]; done) | rfl) ?_
  have nad : a ≠ d := own_ane Bd.1 (wd_39 hw) Bd.2.2.2.2
  have nba : b ≠ a := own_neC Tb.1 Bd.1 (by decide)
  have nta : t ≠ a := Ne.symm (own_ane Bd.1 (wd_39 hw) Tb.2.2.2)
  refine w_aloadN X k68_22_0 rfl (rfl) ?_
  refine w_ifnonnullT X k68_22_1 ?_
  refine w_aloadN X k68_22_9 rfl (rfl) ?_
  refine w_callV X k68_22_10 (wd_67 hw) (wd_68 hw) (nfs X.hZ (wd_70 hw)) (wd_70 hw) (wd_69 hw) (wd_9 hw) (wd_71 hw) (by decide) Tb.1 (argsL := []) (S := []) (m_lnG hw hS Tb.1 Tb.2.1 Tb.2.2.1 Tb.2.2.2 hn) pd_18 rfl rfl rfl (by decide) (leR rfl) (by decide) (by decide) (fun T h1 v1 L1 X q1 => ?_)
  obtain ⟨rfl, rfl⟩ := q1
  show Wp _ _ _ _ (T.setTop (mkF _ _ _ [(.int 3)]))
  refine w_istoreN X #[.val (.ref a), .val (.ref b), .val (.int 3)] k68_22_13 rfl ?_
  refine w_aloadN X k68_22_14 rfl (rfl) ?_
  refine w_aloadN X k68_22_15 rfl (rfl) ?_
  refine w_getF X k68_22_16 (host := "") (Or.inl (wd_78 hw)) Via.refl Bd.2.2.2.1 (fun T X => ?_)
  refine w_iloadN X k68_22_19 rfl ?_
  refine w_iadd X k68_22_20 ?_
  refine w_callP X k68_22_21 (wd_80 hw) (wd_81 hw) (own_selP (wd_83 hw) (wd_82 hw) (wd_81 hw) (by decide)) (wd_82 hw) (wd_48 hw) (wd_84 hw) (by decide) Bd.1 (argsL := [(.int 17)]) (S := []) (m_ec1_17 hw ga Bd.1 Bd.2.1 Bd.2.2.1 Bd.2.2.2.1 Bd.2.2.2.2 hz hzn) pd_9 rfl rfl rfl (by decide) (leR rfl) (by decide) (by decide) (fun T h2 v2 L2 X q2 => ?_)
  obtain ⟨rfl, Kc2, d2, gt2, gn2, Bd2, Ed2⟩ := q2
  have K1 : Keep h0 h2 [a] := (Keep.refl h0 [a]).trans Kc2 (fun x hx => by cases List.mem_singleton.mp hx; exact (Or.inl (List.mem_of_getElem? (i := 0) rfl)))
  have sz_d2 : h0.size ≤ d2 := Nat.le_trans (Keep.refl h0 [a]).1 gt2
  show Wp _ _ _ _ (T.setTop (mkF _ _ _ []))
  refine w_aloadN X k68_22_24 rfl (rfl) ?_
  refine w_aloadN X k68_22_25 rfl (rfl) ?_
  refine w_getF X k68_22_26 (host := "") (Or.inl (wd_78 hw)) Via.refl Bd2.2.2.2.1 (fun T X => ?_)
  refine w_aloadN X k68_22_29 rfl (rfl) ?_
  have f2 := (Tb.keep Kc2 (ni1 nba) (ni1 nta))
  refine w_callP X k68_22_30 (wd_85 hw) (wd_86 hw) (own_selP (wd_88 hw) (wd_87 hw) (wd_86 hw) (by decide)) (wd_87 hw) (wd_48 hw) (wd_89 hw) (by decide) Bd2.1 (argsL := [(.int 14), (.ref b)]) (S := []) (m_psa hw hS Bd2.1 Bd2.2.1 Bd2.2.2.1 f2.1 f2.2.1 f2.2.2.1 f2.2.2.2 gn2 Bd2.2.2.2.2 hn (by decide) (by rw [hwn, own_splLen (by rw [hzn]; decide)]; decide)) pd_19 rfl rfl rfl (by decide) (leR rfl) (by decide) (by decide) (fun T h3 v3 L3 X q3 => ?_)
  obtain ⟨rfl, Kc3, As3⟩ := q3
  have K3 : Keep h0 h3 [a] := K1.trans Kc3 (fun x hx => by cases List.mem_singleton.mp hx; exact (Or.inr sz_d2))
  show Wp _ _ _ _ (T.setTop (mkF _ _ _ []))
  refine w_aloadN X k68_22_33 rfl (rfl) ?_
  refine w_dup X k68_22_34 rfl ?_
  have f4 := (Bd2.2.2.2.1.keep Kc3 (ni1 (nel (ltl Bd.1.lt gt2))))
  refine w_getF X k68_22_35 (host := "") (Or.inl (wd_78 hw)) Via.refl f4 (fun T X => ?_)
  refine w_iloadN X k68_22_38 rfl ?_
  refine w_iadd X k68_22_39 ?_
  have f5 := (Bd2.1.keep Kc3)
  refine w_putF X k68_22_40 (host := "") (Or.inl (wd_78 hw)) Via.refl f4 f5 (Or.inl (wd_79 hw)) (wd_39 hw) (ty := .int) (by decide) rfl rfl ga (fun T h4 X W4 => ?_)
  have f6 := f4.same W4
  have K7 : Keep h0 h4 [a] := K3.wr W4 (Or.inl (List.mem_of_getElem? (i := 0) rfl))
  refine w_aloadN X k68_22_43 rfl (rfl) ?_
  have f8 := (f5.wr W4)
  have f9 := ((Bd2.2.1.keep Kc3 (ni1 (nel (ltl Bd.1.lt gt2)))).other W4 (Or.inr (slot_ne (Or.inl (wd_53 hw)) (Or.inl (wd_79 hw)) (by decide) (t := (.array .byte)) (t' := .int) (by decide) (by decide))))
  have f10 := ((Bd2.2.2.1.keep Kc3 (ni1 (nel (ltl Bd.1.lt gt2)))).other W4 (Or.inr (slot_ne (Or.inl (wd_55 hw)) (Or.inl (wd_79 hw)) (by decide) (t := .byte) (t' := .int) (by decide) (by decide))))
  have f11 := (As3.other W4 (Ne.symm (nel (ltl Bd.1.lt gt2))))
  have f12 := ((Ed2.keep Kc3).wr W4)
  exact w_retR X rfl (rfl) rfl k68_22_44 ⟨rfl, K7, _, sz_d2, gn2, ⟨f8, f9, f10, f6, f11⟩, f12⟩ (by decide) (by decide)
theorem m_apg_14_3 (hw : own_hw a0 Z) {h0 : Heap} {zc : Int32} {fm : Value} {a b d t : Addr} {ws zs : List Value} (hS : own_S Z zc fm) (ga : n0 ≤ a) (gd : n0 ≤ d) (Bd : Bld Z h0 a d (14 : Int32) zs) (Tb : Lat Z h0 b t (0 : Int32) ws) (hn : ws.length.toInt32 = (3 : Int32)) (hwn : ws.length = 3) (hz : zs.length.toInt32 = (16 : Int32)) (hzn : zs.length = 16) :
    Does l Z n0 ⟨"java/lang/StringBuilder", "append", "(Ljava/lang/String;)Ljava/lang/StringBuilder;"⟩ jdk_67_method_7_code 2 (some (.object "java/lang/StringBuilder")) [] { frames := 5, cells := 1, slots := 34, locals := 83 } #[(.ref a), (.ref b)] h0 (fun v h => v = some (.ref a) ∧ Keep h0 h [a] ∧ ∃ d, h0.size ≤ d ∧ n0 ≤ d ∧ Bld Z h a d (17 : Int32) (own_spl (own_spl (List.replicate 34 (.int 0)) 0 zs) 14 ws) ∧ Exa Z h d "[B") := by
  refine Does.start (plainFor_of_name pn_5) ?_
  obtain ⟨S_zc, hzc, S_fm, hfm⟩ := id hS
  intro p e s m below meth c T X
  replace X : Sd _ _ _ _ _ "java/lang/StringBuilder" "append" _ _ _ _ _ _ _ _ _ _ _ _ _ _ _ _ := X
  refine Wp.cast (g' := mkF m 0 #[.val (.ref a), .val (.ref b)] []) (by first | (simp [entryFrame, mkF, argsToLocals, Value.category, maxLocals]; done) | rfl) ?_
  refine w_aloadN X k67_7_0 rfl (rfl) ?_
  refine w_aloadN X k67_7_1 rfl (rfl) ?_
  refine w_callSup X k67_7_2 (by decide) (wd_62 hw) (wd_63 hw) (wd_64 hw) (wd_48 hw) (wd_66 hw) (by decide) Bd.1 (argsL := [(.ref b)]) (S := []) (m_apG_14_3 hw hS ga gd Bd Tb hn hwn hz hzn) pd_20 rfl rfl rfl (by decide) (leR rfl) (by decide) (by decide) (fun T h1 v1 L1 X q1 => ?_)
  obtain ⟨rfl, r1⟩ := q1
  show Wp _ _ _ _ (T.setTop (mkF _ _ _ [(.ref a)]))
  refine w_pop X k67_7_5 rfl ?_
  refine w_aloadN X k67_7_6 rfl (rfl) ?_
  exact w_retR X rfl (rfl) rfl k67_7_7 ⟨rfl, r1⟩ (by decide) (by decide)
theorem m_apG_15_2 (hw : own_hw a0 Z) {h0 : Heap} {zc : Int32} {fm : Value} {a b d t : Addr} {ws zs : List Value} (hS : own_S Z zc fm) (ga : n0 ≤ a) (gd : n0 ≤ d) (Bd : Bld Z h0 a d (15 : Int32) zs) (Tb : Lat Z h0 b t (0 : Int32) ws) (hn : ws.length.toInt32 = (2 : Int32)) (hwn : ws.length = 2) (hz : zs.length.toInt32 = (16 : Int32)) (hzn : zs.length = 16) :
    Does l Z n0 ⟨"java/lang/AbstractStringBuilder", "append", "(Ljava/lang/String;)Ljava/lang/AbstractStringBuilder;"⟩ jdk_68_method_22_code 3 (some (.object "java/lang/AbstractStringBuilder")) [] { frames := 4, cells := 1, slots := 34, locals := 69 } #[(.ref a), (.ref b)] h0 (fun v h => v = some (.ref a) ∧ Keep h0 h [a] ∧ ∃ d, h0.size ≤ d ∧ n0 ≤ d ∧ Bld Z h a d (17 : Int32) (own_spl (own_spl (List.replicate 34 (.int 0)) 0 zs) 15 ws) ∧ Exa Z h d "[B") := by
  refine Does.start (plainFor_of_name pn_4) ?_
  obtain ⟨S_zc, hzc, S_fm, hfm⟩ := id hS
  intro p e s m below meth c T X
  replace X : Sd _ _ _ _ _ "java/lang/AbstractStringBuilder" "append" _ _ _ _ _ _ _ _ _ _ _ _ _ _ _ _ := X
  refine Wp.cast (g' := mkF m 0 #[.val (.ref a), .val (.ref b), .unset] []) (by first | (simp [entryFrame, mkF, argsToLocals, Value.category, maxLocals]; done) | rfl) ?_
  have nad : a ≠ d := own_ane Bd.1 (wd_39 hw) Bd.2.2.2.2
  have nba : b ≠ a := own_neC Tb.1 Bd.1 (by decide)
  have nta : t ≠ a := Ne.symm (own_ane Bd.1 (wd_39 hw) Tb.2.2.2)
  refine w_aloadN X k68_22_0 rfl (rfl) ?_
  refine w_ifnonnullT X k68_22_1 ?_
  refine w_aloadN X k68_22_9 rfl (rfl) ?_
  refine w_callV X k68_22_10 (wd_67 hw) (wd_68 hw) (nfs X.hZ (wd_70 hw)) (wd_70 hw) (wd_69 hw) (wd_9 hw) (wd_71 hw) (by decide) Tb.1 (argsL := []) (S := []) (m_lnG hw hS Tb.1 Tb.2.1 Tb.2.2.1 Tb.2.2.2 hn) pd_18 rfl rfl rfl (by decide) (leR rfl) (by decide) (by decide) (fun T h1 v1 L1 X q1 => ?_)
  obtain ⟨rfl, rfl⟩ := q1
  show Wp _ _ _ _ (T.setTop (mkF _ _ _ [(.int 2)]))
  refine w_istoreN X #[.val (.ref a), .val (.ref b), .val (.int 2)] k68_22_13 rfl ?_
  refine w_aloadN X k68_22_14 rfl (rfl) ?_
  refine w_aloadN X k68_22_15 rfl (rfl) ?_
  refine w_getF X k68_22_16 (host := "") (Or.inl (wd_78 hw)) Via.refl Bd.2.2.2.1 (fun T X => ?_)
  refine w_iloadN X k68_22_19 rfl ?_
  refine w_iadd X k68_22_20 ?_
  refine w_callP X k68_22_21 (wd_80 hw) (wd_81 hw) (own_selP (wd_83 hw) (wd_82 hw) (wd_81 hw) (by decide)) (wd_82 hw) (wd_48 hw) (wd_84 hw) (by decide) Bd.1 (argsL := [(.int 17)]) (S := []) (m_ec1_17 hw ga Bd.1 Bd.2.1 Bd.2.2.1 Bd.2.2.2.1 Bd.2.2.2.2 hz hzn) pd_9 rfl rfl rfl (by decide) (leR rfl) (by decide) (by decide) (fun T h2 v2 L2 X q2 => ?_)
  obtain ⟨rfl, Kc2, d2, gt2, gn2, Bd2, Ed2⟩ := q2
  have K1 : Keep h0 h2 [a] := (Keep.refl h0 [a]).trans Kc2 (fun x hx => by cases List.mem_singleton.mp hx; exact (Or.inl (List.mem_of_getElem? (i := 0) rfl)))
  have sz_d2 : h0.size ≤ d2 := Nat.le_trans (Keep.refl h0 [a]).1 gt2
  show Wp _ _ _ _ (T.setTop (mkF _ _ _ []))
  refine w_aloadN X k68_22_24 rfl (rfl) ?_
  refine w_aloadN X k68_22_25 rfl (rfl) ?_
  refine w_getF X k68_22_26 (host := "") (Or.inl (wd_78 hw)) Via.refl Bd2.2.2.2.1 (fun T X => ?_)
  refine w_aloadN X k68_22_29 rfl (rfl) ?_
  have f2 := (Tb.keep Kc2 (ni1 nba) (ni1 nta))
  refine w_callP X k68_22_30 (wd_85 hw) (wd_86 hw) (own_selP (wd_88 hw) (wd_87 hw) (wd_86 hw) (by decide)) (wd_87 hw) (wd_48 hw) (wd_89 hw) (by decide) Bd2.1 (argsL := [(.int 15), (.ref b)]) (S := []) (m_psa hw hS Bd2.1 Bd2.2.1 Bd2.2.2.1 f2.1 f2.2.1 f2.2.2.1 f2.2.2.2 gn2 Bd2.2.2.2.2 hn (by decide) (by rw [hwn, own_splLen (by rw [hzn]; decide)]; decide)) pd_19 rfl rfl rfl (by decide) (leR rfl) (by decide) (by decide) (fun T h3 v3 L3 X q3 => ?_)
  obtain ⟨rfl, Kc3, As3⟩ := q3
  have K3 : Keep h0 h3 [a] := K1.trans Kc3 (fun x hx => by cases List.mem_singleton.mp hx; exact (Or.inr sz_d2))
  show Wp _ _ _ _ (T.setTop (mkF _ _ _ []))
  refine w_aloadN X k68_22_33 rfl (rfl) ?_
  refine w_dup X k68_22_34 rfl ?_
  have f4 := (Bd2.2.2.2.1.keep Kc3 (ni1 (nel (ltl Bd.1.lt gt2))))
  refine w_getF X k68_22_35 (host := "") (Or.inl (wd_78 hw)) Via.refl f4 (fun T X => ?_)
  refine w_iloadN X k68_22_38 rfl ?_
  refine w_iadd X k68_22_39 ?_
  have f5 := (Bd2.1.keep Kc3)
  refine w_putF X k68_22_40 (host := "") (Or.inl (wd_78 hw)) Via.refl f4 f5 (Or.inl (wd_79 hw)) (wd_39 hw) (ty := .int) (by decide) rfl rfl ga (fun T h4 X W4 => ?_)
  have f6 := f4.same W4
  have K7 : Keep h0 h4 [a] := K3.wr W4 (Or.inl (List.mem_of_getElem? (i := 0) rfl))
  refine w_aloadN X k68_22_43 rfl (rfl) ?_
  have f8 := (f5.wr W4)
  have f9 := ((Bd2.2.1.keep Kc3 (ni1 (nel (ltl Bd.1.lt gt2)))).other W4 (Or.inr (slot_ne (Or.inl (wd_53 hw)) (Or.inl (wd_79 hw)) (by decide) (t := (.array .byte)) (t' := .int) (by decide) (by decide))))
  have f10 := ((Bd2.2.2.1.keep Kc3 (ni1 (nel (ltl Bd.1.lt gt2)))).other W4 (Or.inr (slot_ne (Or.inl (wd_55 hw)) (Or.inl (wd_79 hw)) (by decide) (t := .byte) (t' := .int) (by decide) (by decide))))
  have f11 := (As3.other W4 (Ne.symm (nel (ltl Bd.1.lt gt2))))
  have f12 := ((Ed2.keep Kc3).wr W4)
  exact w_retR X rfl (rfl) rfl k68_22_44 ⟨rfl, K7, _, sz_d2, gn2, ⟨f8, f9, f10, f6, f11⟩, f12⟩ (by decide) (by decide)
theorem m_apg_15_2 (hw : own_hw a0 Z) {h0 : Heap} {zc : Int32} {fm : Value} {a b d t : Addr} {ws zs : List Value} (hS : own_S Z zc fm) (ga : n0 ≤ a) (gd : n0 ≤ d) (Bd : Bld Z h0 a d (15 : Int32) zs) (Tb : Lat Z h0 b t (0 : Int32) ws) (hn : ws.length.toInt32 = (2 : Int32)) (hwn : ws.length = 2) (hz : zs.length.toInt32 = (16 : Int32)) (hzn : zs.length = 16) :
    Does l Z n0 ⟨"java/lang/StringBuilder", "append", "(Ljava/lang/String;)Ljava/lang/StringBuilder;"⟩ jdk_67_method_7_code 2 (some (.object "java/lang/StringBuilder")) [] { frames := 5, cells := 1, slots := 34, locals := 83 } #[(.ref a), (.ref b)] h0 (fun v h => v = some (.ref a) ∧ Keep h0 h [a] ∧ ∃ d, h0.size ≤ d ∧ n0 ≤ d ∧ Bld Z h a d (17 : Int32) (own_spl (own_spl (List.replicate 34 (.int 0)) 0 zs) 15 ws) ∧ Exa Z h d "[B") := by
  refine Does.start (plainFor_of_name pn_5) ?_
  obtain ⟨S_zc, hzc, S_fm, hfm⟩ := id hS
  intro p e s m below meth c T X
  replace X : Sd _ _ _ _ _ "java/lang/StringBuilder" "append" _ _ _ _ _ _ _ _ _ _ _ _ _ _ _ _ := X
  refine Wp.cast (g' := mkF m 0 #[.val (.ref a), .val (.ref b)] []) (by first | (simp [entryFrame, mkF, argsToLocals, Value.category, maxLocals]; done) | rfl) ?_
  refine w_aloadN X k67_7_0 rfl (rfl) ?_
  refine w_aloadN X k67_7_1 rfl (rfl) ?_
  refine w_callSup X k67_7_2 (by decide) (wd_62 hw) (wd_63 hw) (wd_64 hw) (wd_48 hw) (wd_66 hw) (by decide) Bd.1 (argsL := [(.ref b)]) (S := []) (m_apG_15_2 hw hS ga gd Bd Tb hn hwn hz hzn) pd_20 rfl rfl rfl (by decide) (leR rfl) (by decide) (by decide) (fun T h1 v1 L1 X q1 => ?_)
  obtain ⟨rfl, r1⟩ := q1
  show Wp _ _ _ _ (T.setTop (mkF _ _ _ [(.ref a)]))
  refine w_pop X k67_7_5 rfl ?_
  refine w_aloadN X k67_7_6 rfl (rfl) ?_
  exact w_retR X rfl (rfl) rfl k67_7_7 ⟨rfl, r1⟩ (by decide) (by decide)
theorem m_apG_16_1 (hw : own_hw a0 Z) {h0 : Heap} {zc : Int32} {fm : Value} {a b d t : Addr} {ws zs : List Value} (hS : own_S Z zc fm) (ga : n0 ≤ a) (gd : n0 ≤ d) (Bd : Bld Z h0 a d (16 : Int32) zs) (Tb : Lat Z h0 b t (0 : Int32) ws) (hn : ws.length.toInt32 = (1 : Int32)) (hwn : ws.length = 1) (hz : zs.length.toInt32 = (16 : Int32)) (hzn : zs.length = 16) :
    Does l Z n0 ⟨"java/lang/AbstractStringBuilder", "append", "(Ljava/lang/String;)Ljava/lang/AbstractStringBuilder;"⟩ jdk_68_method_22_code 3 (some (.object "java/lang/AbstractStringBuilder")) [] { frames := 4, cells := 1, slots := 34, locals := 69 } #[(.ref a), (.ref b)] h0 (fun v h => v = some (.ref a) ∧ Keep h0 h [a] ∧ ∃ d, h0.size ≤ d ∧ n0 ≤ d ∧ Bld Z h a d (17 : Int32) (own_spl (own_spl (List.replicate 34 (.int 0)) 0 zs) 16 ws) ∧ Exa Z h d "[B") := by
  refine Does.start (plainFor_of_name pn_4) ?_
  obtain ⟨S_zc, hzc, S_fm, hfm⟩ := id hS
  intro p e s m below meth c T X
  replace X : Sd _ _ _ _ _ "java/lang/AbstractStringBuilder" "append" _ _ _ _ _ _ _ _ _ _ _ _ _ _ _ _ := X
  refine Wp.cast (g' := mkF m 0 #[.val (.ref a), .val (.ref b), .unset] []) (by first | (simp [entryFrame, mkF, argsToLocals, Value.category, maxLocals]; done) | rfl) ?_
  have nad : a ≠ d := own_ane Bd.1 (wd_39 hw) Bd.2.2.2.2
  have nba : b ≠ a := own_neC Tb.1 Bd.1 (by decide)
  have nta : t ≠ a := Ne.symm (own_ane Bd.1 (wd_39 hw) Tb.2.2.2)
  refine w_aloadN X k68_22_0 rfl (rfl) ?_
  refine w_ifnonnullT X k68_22_1 ?_
  refine w_aloadN X k68_22_9 rfl (rfl) ?_
  refine w_callV X k68_22_10 (wd_67 hw) (wd_68 hw) (nfs X.hZ (wd_70 hw)) (wd_70 hw) (wd_69 hw) (wd_9 hw) (wd_71 hw) (by decide) Tb.1 (argsL := []) (S := []) (m_lnG hw hS Tb.1 Tb.2.1 Tb.2.2.1 Tb.2.2.2 hn) pd_18 rfl rfl rfl (by decide) (leR rfl) (by decide) (by decide) (fun T h1 v1 L1 X q1 => ?_)
  obtain ⟨rfl, rfl⟩ := q1
  show Wp _ _ _ _ (T.setTop (mkF _ _ _ [(.int 1)]))
  refine w_istoreN X #[.val (.ref a), .val (.ref b), .val (.int 1)] k68_22_13 rfl ?_
  refine w_aloadN X k68_22_14 rfl (rfl) ?_
  refine w_aloadN X k68_22_15 rfl (rfl) ?_
  refine w_getF X k68_22_16 (host := "") (Or.inl (wd_78 hw)) Via.refl Bd.2.2.2.1 (fun T X => ?_)
  refine w_iloadN X k68_22_19 rfl ?_
  refine w_iadd X k68_22_20 ?_
  refine w_callP X k68_22_21 (wd_80 hw) (wd_81 hw) (own_selP (wd_83 hw) (wd_82 hw) (wd_81 hw) (by decide)) (wd_82 hw) (wd_48 hw) (wd_84 hw) (by decide) Bd.1 (argsL := [(.int 17)]) (S := []) (m_ec1_17 hw ga Bd.1 Bd.2.1 Bd.2.2.1 Bd.2.2.2.1 Bd.2.2.2.2 hz hzn) pd_9 rfl rfl rfl (by decide) (leR rfl) (by decide) (by decide) (fun T h2 v2 L2 X q2 => ?_)
  obtain ⟨rfl, Kc2, d2, gt2, gn2, Bd2, Ed2⟩ := q2
  have K1 : Keep h0 h2 [a] := (Keep.refl h0 [a]).trans Kc2 (fun x hx => by cases List.mem_singleton.mp hx; exact (Or.inl (List.mem_of_getElem? (i := 0) rfl)))
  have sz_d2 : h0.size ≤ d2 := Nat.le_trans (Keep.refl h0 [a]).1 gt2
  show Wp _ _ _ _ (T.setTop (mkF _ _ _ []))
  refine w_aloadN X k68_22_24 rfl (rfl) ?_
  refine w_aloadN X k68_22_25 rfl (rfl) ?_
  refine w_getF X k68_22_26 (host := "") (Or.inl (wd_78 hw)) Via.refl Bd2.2.2.2.1 (fun T X => ?_)
  refine w_aloadN X k68_22_29 rfl (rfl) ?_
  have f2 := (Tb.keep Kc2 (ni1 nba) (ni1 nta))
  refine w_callP X k68_22_30 (wd_85 hw) (wd_86 hw) (own_selP (wd_88 hw) (wd_87 hw) (wd_86 hw) (by decide)) (wd_87 hw) (wd_48 hw) (wd_89 hw) (by decide) Bd2.1 (argsL := [(.int 16), (.ref b)]) (S := []) (m_psa hw hS Bd2.1 Bd2.2.1 Bd2.2.2.1 f2.1 f2.2.1 f2.2.2.1 f2.2.2.2 gn2 Bd2.2.2.2.2 hn (by decide) (by rw [hwn, own_splLen (by rw [hzn]; decide)]; decide)) pd_19 rfl rfl rfl (by decide) (leR rfl) (by decide) (by decide) (fun T h3 v3 L3 X q3 => ?_)
  obtain ⟨rfl, Kc3, As3⟩ := q3
  have K3 : Keep h0 h3 [a] := K1.trans Kc3 (fun x hx => by cases List.mem_singleton.mp hx; exact (Or.inr sz_d2))
  show Wp _ _ _ _ (T.setTop (mkF _ _ _ []))
  refine w_aloadN X k68_22_33 rfl (rfl) ?_
  refine w_dup X k68_22_34 rfl ?_
  have f4 := (Bd2.2.2.2.1.keep Kc3 (ni1 (nel (ltl Bd.1.lt gt2))))
  refine w_getF X k68_22_35 (host := "") (Or.inl (wd_78 hw)) Via.refl f4 (fun T X => ?_)
  refine w_iloadN X k68_22_38 rfl ?_
  refine w_iadd X k68_22_39 ?_
  have f5 := (Bd2.1.keep Kc3)
  refine w_putF X k68_22_40 (host := "") (Or.inl (wd_78 hw)) Via.refl f4 f5 (Or.inl (wd_79 hw)) (wd_39 hw) (ty := .int) (by decide) rfl rfl ga (fun T h4 X W4 => ?_)
  have f6 := f4.same W4
  have K7 : Keep h0 h4 [a] := K3.wr W4 (Or.inl (List.mem_of_getElem? (i := 0) rfl))
  refine w_aloadN X k68_22_43 rfl (rfl) ?_
  have f8 := (f5.wr W4)
  have f9 := ((Bd2.2.1.keep Kc3 (ni1 (nel (ltl Bd.1.lt gt2)))).other W4 (Or.inr (slot_ne (Or.inl (wd_53 hw)) (Or.inl (wd_79 hw)) (by decide) (t := (.array .byte)) (t' := .int) (by decide) (by decide))))
  have f10 := ((Bd2.2.2.1.keep Kc3 (ni1 (nel (ltl Bd.1.lt gt2)))).other W4 (Or.inr (slot_ne (Or.inl (wd_55 hw)) (Or.inl (wd_79 hw)) (by decide) (t := .byte) (t' := .int) (by decide) (by decide))))
  have f11 := (As3.other W4 (Ne.symm (nel (ltl Bd.1.lt gt2))))
  have f12 := ((Ed2.keep Kc3).wr W4)
  exact w_retR X rfl (rfl) rfl k68_22_44 ⟨rfl, K7, _, sz_d2, gn2, ⟨f8, f9, f10, f6, f11⟩, f12⟩ (by decide) (by decide)
theorem m_apg_16_1 (hw : own_hw a0 Z) {h0 : Heap} {zc : Int32} {fm : Value} {a b d t : Addr} {ws zs : List Value} (hS : own_S Z zc fm) (ga : n0 ≤ a) (gd : n0 ≤ d) (Bd : Bld Z h0 a d (16 : Int32) zs) (Tb : Lat Z h0 b t (0 : Int32) ws) (hn : ws.length.toInt32 = (1 : Int32)) (hwn : ws.length = 1) (hz : zs.length.toInt32 = (16 : Int32)) (hzn : zs.length = 16) :
    Does l Z n0 ⟨"java/lang/StringBuilder", "append", "(Ljava/lang/String;)Ljava/lang/StringBuilder;"⟩ jdk_67_method_7_code 2 (some (.object "java/lang/StringBuilder")) [] { frames := 5, cells := 1, slots := 34, locals := 83 } #[(.ref a), (.ref b)] h0 (fun v h => v = some (.ref a) ∧ Keep h0 h [a] ∧ ∃ d, h0.size ≤ d ∧ n0 ≤ d ∧ Bld Z h a d (17 : Int32) (own_spl (own_spl (List.replicate 34 (.int 0)) 0 zs) 16 ws) ∧ Exa Z h d "[B") := by
  refine Does.start (plainFor_of_name pn_5) ?_
  obtain ⟨S_zc, hzc, S_fm, hfm⟩ := id hS
  intro p e s m below meth c T X
  replace X : Sd _ _ _ _ _ "java/lang/StringBuilder" "append" _ _ _ _ _ _ _ _ _ _ _ _ _ _ _ _ := X
  refine Wp.cast (g' := mkF m 0 #[.val (.ref a), .val (.ref b)] []) (by first | (simp [entryFrame, mkF, argsToLocals, Value.category, maxLocals]; done) | rfl) ?_
  refine w_aloadN X k67_7_0 rfl (rfl) ?_
  refine w_aloadN X k67_7_1 rfl (rfl) ?_
  refine w_callSup X k67_7_2 (by decide) (wd_62 hw) (wd_63 hw) (wd_64 hw) (wd_48 hw) (wd_66 hw) (by decide) Bd.1 (argsL := [(.ref b)]) (S := []) (m_apG_16_1 hw hS ga gd Bd Tb hn hwn hz hzn) pd_20 rfl rfl rfl (by decide) (leR rfl) (by decide) (by decide) (fun T h1 v1 L1 X q1 => ?_)
  obtain ⟨rfl, r1⟩ := q1
  show Wp _ _ _ _ (T.setTop (mkF _ _ _ [(.ref a)]))
  refine w_pop X k67_7_5 rfl ?_
  refine w_aloadN X k67_7_6 rfl (rfl) ?_
  exact w_retR X rfl (rfl) rfl k67_7_7 ⟨rfl, r1⟩ (by decide) (by decide)
theorem m_apG_16_2 (hw : own_hw a0 Z) {h0 : Heap} {zc : Int32} {fm : Value} {a b d t : Addr} {ws zs : List Value} (hS : own_S Z zc fm) (ga : n0 ≤ a) (gd : n0 ≤ d) (Bd : Bld Z h0 a d (16 : Int32) zs) (Tb : Lat Z h0 b t (0 : Int32) ws) (hn : ws.length.toInt32 = (2 : Int32)) (hwn : ws.length = 2) (hz : zs.length.toInt32 = (16 : Int32)) (hzn : zs.length = 16) :
    Does l Z n0 ⟨"java/lang/AbstractStringBuilder", "append", "(Ljava/lang/String;)Ljava/lang/AbstractStringBuilder;"⟩ jdk_68_method_22_code 3 (some (.object "java/lang/AbstractStringBuilder")) [] { frames := 4, cells := 1, slots := 34, locals := 69 } #[(.ref a), (.ref b)] h0 (fun v h => v = some (.ref a) ∧ Keep h0 h [a] ∧ ∃ d, h0.size ≤ d ∧ n0 ≤ d ∧ Bld Z h a d (18 : Int32) (own_spl (own_spl (List.replicate 34 (.int 0)) 0 zs) 16 ws) ∧ Exa Z h d "[B") := by
  refine Does.start (plainFor_of_name pn_4) ?_
  obtain ⟨S_zc, hzc, S_fm, hfm⟩ := id hS
  intro p e s m below meth c T X
  replace X : Sd _ _ _ _ _ "java/lang/AbstractStringBuilder" "append" _ _ _ _ _ _ _ _ _ _ _ _ _ _ _ _ := X
  refine Wp.cast (g' := mkF m 0 #[.val (.ref a), .val (.ref b), .unset] []) (by first | (simp [entryFrame, mkF, argsToLocals, Value.category, maxLocals]; done) | rfl) ?_
  have nad : a ≠ d := own_ane Bd.1 (wd_39 hw) Bd.2.2.2.2
  have nba : b ≠ a := own_neC Tb.1 Bd.1 (by decide)
  have nta : t ≠ a := Ne.symm (own_ane Bd.1 (wd_39 hw) Tb.2.2.2)
  refine w_aloadN X k68_22_0 rfl (rfl) ?_
  refine w_ifnonnullT X k68_22_1 ?_
  refine w_aloadN X k68_22_9 rfl (rfl) ?_
  refine w_callV X k68_22_10 (wd_67 hw) (wd_68 hw) (nfs X.hZ (wd_70 hw)) (wd_70 hw) (wd_69 hw) (wd_9 hw) (wd_71 hw) (by decide) Tb.1 (argsL := []) (S := []) (m_lnG hw hS Tb.1 Tb.2.1 Tb.2.2.1 Tb.2.2.2 hn) pd_18 rfl rfl rfl (by decide) (leR rfl) (by decide) (by decide) (fun T h1 v1 L1 X q1 => ?_)
  obtain ⟨rfl, rfl⟩ := q1
  show Wp _ _ _ _ (T.setTop (mkF _ _ _ [(.int 2)]))
  refine w_istoreN X #[.val (.ref a), .val (.ref b), .val (.int 2)] k68_22_13 rfl ?_
  refine w_aloadN X k68_22_14 rfl (rfl) ?_
  refine w_aloadN X k68_22_15 rfl (rfl) ?_
  refine w_getF X k68_22_16 (host := "") (Or.inl (wd_78 hw)) Via.refl Bd.2.2.2.1 (fun T X => ?_)
  refine w_iloadN X k68_22_19 rfl ?_
  refine w_iadd X k68_22_20 ?_
  refine w_callP X k68_22_21 (wd_80 hw) (wd_81 hw) (own_selP (wd_83 hw) (wd_82 hw) (wd_81 hw) (by decide)) (wd_82 hw) (wd_48 hw) (wd_84 hw) (by decide) Bd.1 (argsL := [(.int 18)]) (S := []) (m_ec1_18 hw ga Bd.1 Bd.2.1 Bd.2.2.1 Bd.2.2.2.1 Bd.2.2.2.2 hz hzn) pd_9 rfl rfl rfl (by decide) (leR rfl) (by decide) (by decide) (fun T h2 v2 L2 X q2 => ?_)
  obtain ⟨rfl, Kc2, d2, gt2, gn2, Bd2, Ed2⟩ := q2
  have K1 : Keep h0 h2 [a] := (Keep.refl h0 [a]).trans Kc2 (fun x hx => by cases List.mem_singleton.mp hx; exact (Or.inl (List.mem_of_getElem? (i := 0) rfl)))
  have sz_d2 : h0.size ≤ d2 := Nat.le_trans (Keep.refl h0 [a]).1 gt2
  show Wp _ _ _ _ (T.setTop (mkF _ _ _ []))
  refine w_aloadN X k68_22_24 rfl (rfl) ?_
  refine w_aloadN X k68_22_25 rfl (rfl) ?_
  refine w_getF X k68_22_26 (host := "") (Or.inl (wd_78 hw)) Via.refl Bd2.2.2.2.1 (fun T X => ?_)
  refine w_aloadN X k68_22_29 rfl (rfl) ?_
  have f2 := (Tb.keep Kc2 (ni1 nba) (ni1 nta))
  refine w_callP X k68_22_30 (wd_85 hw) (wd_86 hw) (own_selP (wd_88 hw) (wd_87 hw) (wd_86 hw) (by decide)) (wd_87 hw) (wd_48 hw) (wd_89 hw) (by decide) Bd2.1 (argsL := [(.int 16), (.ref b)]) (S := []) (m_psa hw hS Bd2.1 Bd2.2.1 Bd2.2.2.1 f2.1 f2.2.1 f2.2.2.1 f2.2.2.2 gn2 Bd2.2.2.2.2 hn (by decide) (by rw [hwn, own_splLen (by rw [hzn]; decide)]; decide)) pd_19 rfl rfl rfl (by decide) (leR rfl) (by decide) (by decide) (fun T h3 v3 L3 X q3 => ?_)
  obtain ⟨rfl, Kc3, As3⟩ := q3
  have K3 : Keep h0 h3 [a] := K1.trans Kc3 (fun x hx => by cases List.mem_singleton.mp hx; exact (Or.inr sz_d2))
  show Wp _ _ _ _ (T.setTop (mkF _ _ _ []))
  refine w_aloadN X k68_22_33 rfl (rfl) ?_
  refine w_dup X k68_22_34 rfl ?_
  have f4 := (Bd2.2.2.2.1.keep Kc3 (ni1 (nel (ltl Bd.1.lt gt2))))
  refine w_getF X k68_22_35 (host := "") (Or.inl (wd_78 hw)) Via.refl f4 (fun T X => ?_)
  refine w_iloadN X k68_22_38 rfl ?_
  refine w_iadd X k68_22_39 ?_
  have f5 := (Bd2.1.keep Kc3)
  refine w_putF X k68_22_40 (host := "") (Or.inl (wd_78 hw)) Via.refl f4 f5 (Or.inl (wd_79 hw)) (wd_39 hw) (ty := .int) (by decide) rfl rfl ga (fun T h4 X W4 => ?_)
  have f6 := f4.same W4
  have K7 : Keep h0 h4 [a] := K3.wr W4 (Or.inl (List.mem_of_getElem? (i := 0) rfl))
  refine w_aloadN X k68_22_43 rfl (rfl) ?_
  have f8 := (f5.wr W4)
  have f9 := ((Bd2.2.1.keep Kc3 (ni1 (nel (ltl Bd.1.lt gt2)))).other W4 (Or.inr (slot_ne (Or.inl (wd_53 hw)) (Or.inl (wd_79 hw)) (by decide) (t := (.array .byte)) (t' := .int) (by decide) (by decide))))
  have f10 := ((Bd2.2.2.1.keep Kc3 (ni1 (nel (ltl Bd.1.lt gt2)))).other W4 (Or.inr (slot_ne (Or.inl (wd_55 hw)) (Or.inl (wd_79 hw)) (by decide) (t := .byte) (t' := .int) (by decide) (by decide))))
  have f11 := (As3.other W4 (Ne.symm (nel (ltl Bd.1.lt gt2))))
  have f12 := ((Ed2.keep Kc3).wr W4)
  exact w_retR X rfl (rfl) rfl k68_22_44 ⟨rfl, K7, _, sz_d2, gn2, ⟨f8, f9, f10, f6, f11⟩, f12⟩ (by decide) (by decide)
theorem m_apg_16_2 (hw : own_hw a0 Z) {h0 : Heap} {zc : Int32} {fm : Value} {a b d t : Addr} {ws zs : List Value} (hS : own_S Z zc fm) (ga : n0 ≤ a) (gd : n0 ≤ d) (Bd : Bld Z h0 a d (16 : Int32) zs) (Tb : Lat Z h0 b t (0 : Int32) ws) (hn : ws.length.toInt32 = (2 : Int32)) (hwn : ws.length = 2) (hz : zs.length.toInt32 = (16 : Int32)) (hzn : zs.length = 16) :
    Does l Z n0 ⟨"java/lang/StringBuilder", "append", "(Ljava/lang/String;)Ljava/lang/StringBuilder;"⟩ jdk_67_method_7_code 2 (some (.object "java/lang/StringBuilder")) [] { frames := 5, cells := 1, slots := 34, locals := 83 } #[(.ref a), (.ref b)] h0 (fun v h => v = some (.ref a) ∧ Keep h0 h [a] ∧ ∃ d, h0.size ≤ d ∧ n0 ≤ d ∧ Bld Z h a d (18 : Int32) (own_spl (own_spl (List.replicate 34 (.int 0)) 0 zs) 16 ws) ∧ Exa Z h d "[B") := by
  refine Does.start (plainFor_of_name pn_5) ?_
  obtain ⟨S_zc, hzc, S_fm, hfm⟩ := id hS
  intro p e s m below meth c T X
  replace X : Sd _ _ _ _ _ "java/lang/StringBuilder" "append" _ _ _ _ _ _ _ _ _ _ _ _ _ _ _ _ := X
  refine Wp.cast (g' := mkF m 0 #[.val (.ref a), .val (.ref b)] []) (by first | (simp [entryFrame, mkF, argsToLocals, Value.category, maxLocals]; done) | rfl) ?_
  refine w_aloadN X k67_7_0 rfl (rfl) ?_
  refine w_aloadN X k67_7_1 rfl (rfl) ?_
  refine w_callSup X k67_7_2 (by decide) (wd_62 hw) (wd_63 hw) (wd_64 hw) (wd_48 hw) (wd_66 hw) (by decide) Bd.1 (argsL := [(.ref b)]) (S := []) (m_apG_16_2 hw hS ga gd Bd Tb hn hwn hz hzn) pd_20 rfl rfl rfl (by decide) (leR rfl) (by decide) (by decide) (fun T h1 v1 L1 X q1 => ?_)
  obtain ⟨rfl, r1⟩ := q1
  show Wp _ _ _ _ (T.setTop (mkF _ _ _ [(.ref a)]))
  refine w_pop X k67_7_5 rfl ?_
  refine w_aloadN X k67_7_6 rfl (rfl) ?_
  exact w_retR X rfl (rfl) rfl k67_7_7 ⟨rfl, r1⟩ (by decide) (by decide)
theorem m_apG_16_3 (hw : own_hw a0 Z) {h0 : Heap} {zc : Int32} {fm : Value} {a b d t : Addr} {ws zs : List Value} (hS : own_S Z zc fm) (ga : n0 ≤ a) (gd : n0 ≤ d) (Bd : Bld Z h0 a d (16 : Int32) zs) (Tb : Lat Z h0 b t (0 : Int32) ws) (hn : ws.length.toInt32 = (3 : Int32)) (hwn : ws.length = 3) (hz : zs.length.toInt32 = (16 : Int32)) (hzn : zs.length = 16) :
    Does l Z n0 ⟨"java/lang/AbstractStringBuilder", "append", "(Ljava/lang/String;)Ljava/lang/AbstractStringBuilder;"⟩ jdk_68_method_22_code 3 (some (.object "java/lang/AbstractStringBuilder")) [] { frames := 4, cells := 1, slots := 34, locals := 69 } #[(.ref a), (.ref b)] h0 (fun v h => v = some (.ref a) ∧ Keep h0 h [a] ∧ ∃ d, h0.size ≤ d ∧ n0 ≤ d ∧ Bld Z h a d (19 : Int32) (own_spl (own_spl (List.replicate 34 (.int 0)) 0 zs) 16 ws) ∧ Exa Z h d "[B") := by
  refine Does.start (plainFor_of_name pn_4) ?_
  obtain ⟨S_zc, hzc, S_fm, hfm⟩ := id hS
  intro p e s m below meth c T X
  replace X : Sd _ _ _ _ _ "java/lang/AbstractStringBuilder" "append" _ _ _ _ _ _ _ _ _ _ _ _ _ _ _ _ := X
  refine Wp.cast (g' := mkF m 0 #[.val (.ref a), .val (.ref b), .unset] []) (by first | (simp [entryFrame, mkF, argsToLocals, Value.category, maxLocals]; done) | rfl) ?_
  have nad : a ≠ d := own_ane Bd.1 (wd_39 hw) Bd.2.2.2.2
  have nba : b ≠ a := own_neC Tb.1 Bd.1 (by decide)
  have nta : t ≠ a := Ne.symm (own_ane Bd.1 (wd_39 hw) Tb.2.2.2)
  refine w_aloadN X k68_22_0 rfl (rfl) ?_
  refine w_ifnonnullT X k68_22_1 ?_
  refine w_aloadN X k68_22_9 rfl (rfl) ?_
  refine w_callV X k68_22_10 (wd_67 hw) (wd_68 hw) (nfs X.hZ (wd_70 hw)) (wd_70 hw) (wd_69 hw) (wd_9 hw) (wd_71 hw) (by decide) Tb.1 (argsL := []) (S := []) (m_lnG hw hS Tb.1 Tb.2.1 Tb.2.2.1 Tb.2.2.2 hn) pd_18 rfl rfl rfl (by decide) (leR rfl) (by decide) (by decide) (fun T h1 v1 L1 X q1 => ?_)
  obtain ⟨rfl, rfl⟩ := q1
  show Wp _ _ _ _ (T.setTop (mkF _ _ _ [(.int 3)]))
  refine w_istoreN X #[.val (.ref a), .val (.ref b), .val (.int 3)] k68_22_13 rfl ?_
  refine w_aloadN X k68_22_14 rfl (rfl) ?_
  refine w_aloadN X k68_22_15 rfl (rfl) ?_
  refine w_getF X k68_22_16 (host := "") (Or.inl (wd_78 hw)) Via.refl Bd.2.2.2.1 (fun T X => ?_)
  refine w_iloadN X k68_22_19 rfl ?_
  refine w_iadd X k68_22_20 ?_
  refine w_callP X k68_22_21 (wd_80 hw) (wd_81 hw) (own_selP (wd_83 hw) (wd_82 hw) (wd_81 hw) (by decide)) (wd_82 hw) (wd_48 hw) (wd_84 hw) (by decide) Bd.1 (argsL := [(.int 19)]) (S := []) (m_ec1_19 hw ga Bd.1 Bd.2.1 Bd.2.2.1 Bd.2.2.2.1 Bd.2.2.2.2 hz hzn) pd_9 rfl rfl rfl (by decide) (leR rfl) (by decide) (by decide) (fun T h2 v2 L2 X q2 => ?_)
  obtain ⟨rfl, Kc2, d2, gt2, gn2, Bd2, Ed2⟩ := q2
  have K1 : Keep h0 h2 [a] := (Keep.refl h0 [a]).trans Kc2 (fun x hx => by cases List.mem_singleton.mp hx; exact (Or.inl (List.mem_of_getElem? (i := 0) rfl)))
  have sz_d2 : h0.size ≤ d2 := Nat.le_trans (Keep.refl h0 [a]).1 gt2
  show Wp _ _ _ _ (T.setTop (mkF _ _ _ []))
  refine w_aloadN X k68_22_24 rfl (rfl) ?_
  refine w_aloadN X k68_22_25 rfl (rfl) ?_
  refine w_getF X k68_22_26 (host := "") (Or.inl (wd_78 hw)) Via.refl Bd2.2.2.2.1 (fun T X => ?_)
  refine w_aloadN X k68_22_29 rfl (rfl) ?_
  have f2 := (Tb.keep Kc2 (ni1 nba) (ni1 nta))
  refine w_callP X k68_22_30 (wd_85 hw) (wd_86 hw) (own_selP (wd_88 hw) (wd_87 hw) (wd_86 hw) (by decide)) (wd_87 hw) (wd_48 hw) (wd_89 hw) (by decide) Bd2.1 (argsL := [(.int 16), (.ref b)]) (S := []) (m_psa hw hS Bd2.1 Bd2.2.1 Bd2.2.2.1 f2.1 f2.2.1 f2.2.2.1 f2.2.2.2 gn2 Bd2.2.2.2.2 hn (by decide) (by rw [hwn, own_splLen (by rw [hzn]; decide)]; decide)) pd_19 rfl rfl rfl (by decide) (leR rfl) (by decide) (by decide) (fun T h3 v3 L3 X q3 => ?_)
  obtain ⟨rfl, Kc3, As3⟩ := q3
  have K3 : Keep h0 h3 [a] := K1.trans Kc3 (fun x hx => by cases List.mem_singleton.mp hx; exact (Or.inr sz_d2))
  show Wp _ _ _ _ (T.setTop (mkF _ _ _ []))
  refine w_aloadN X k68_22_33 rfl (rfl) ?_
  refine w_dup X k68_22_34 rfl ?_
  have f4 := (Bd2.2.2.2.1.keep Kc3 (ni1 (nel (ltl Bd.1.lt gt2))))
  refine w_getF X k68_22_35 (host := "") (Or.inl (wd_78 hw)) Via.refl f4 (fun T X => ?_)
  refine w_iloadN X k68_22_38 rfl ?_
  refine w_iadd X k68_22_39 ?_
  have f5 := (Bd2.1.keep Kc3)
  refine w_putF X k68_22_40 (host := "") (Or.inl (wd_78 hw)) Via.refl f4 f5 (Or.inl (wd_79 hw)) (wd_39 hw) (ty := .int) (by decide) rfl rfl ga (fun T h4 X W4 => ?_)
  have f6 := f4.same W4
  have K7 : Keep h0 h4 [a] := K3.wr W4 (Or.inl (List.mem_of_getElem? (i := 0) rfl))
  refine w_aloadN X k68_22_43 rfl (rfl) ?_
  have f8 := (f5.wr W4)
  have f9 := ((Bd2.2.1.keep Kc3 (ni1 (nel (ltl Bd.1.lt gt2)))).other W4 (Or.inr (slot_ne (Or.inl (wd_53 hw)) (Or.inl (wd_79 hw)) (by decide) (t := (.array .byte)) (t' := .int) (by decide) (by decide))))
  have f10 := ((Bd2.2.2.1.keep Kc3 (ni1 (nel (ltl Bd.1.lt gt2)))).other W4 (Or.inr (slot_ne (Or.inl (wd_55 hw)) (Or.inl (wd_79 hw)) (by decide) (t := .byte) (t' := .int) (by decide) (by decide))))
  have f11 := (As3.other W4 (Ne.symm (nel (ltl Bd.1.lt gt2))))
  have f12 := ((Ed2.keep Kc3).wr W4)
  exact w_retR X rfl (rfl) rfl k68_22_44 ⟨rfl, K7, _, sz_d2, gn2, ⟨f8, f9, f10, f6, f11⟩, f12⟩ (by decide) (by decide)
theorem m_apg_16_3 (hw : own_hw a0 Z) {h0 : Heap} {zc : Int32} {fm : Value} {a b d t : Addr} {ws zs : List Value} (hS : own_S Z zc fm) (ga : n0 ≤ a) (gd : n0 ≤ d) (Bd : Bld Z h0 a d (16 : Int32) zs) (Tb : Lat Z h0 b t (0 : Int32) ws) (hn : ws.length.toInt32 = (3 : Int32)) (hwn : ws.length = 3) (hz : zs.length.toInt32 = (16 : Int32)) (hzn : zs.length = 16) :
    Does l Z n0 ⟨"java/lang/StringBuilder", "append", "(Ljava/lang/String;)Ljava/lang/StringBuilder;"⟩ jdk_67_method_7_code 2 (some (.object "java/lang/StringBuilder")) [] { frames := 5, cells := 1, slots := 34, locals := 83 } #[(.ref a), (.ref b)] h0 (fun v h => v = some (.ref a) ∧ Keep h0 h [a] ∧ ∃ d, h0.size ≤ d ∧ n0 ≤ d ∧ Bld Z h a d (19 : Int32) (own_spl (own_spl (List.replicate 34 (.int 0)) 0 zs) 16 ws) ∧ Exa Z h d "[B") := by
  refine Does.start (plainFor_of_name pn_5) ?_
  obtain ⟨S_zc, hzc, S_fm, hfm⟩ := id hS
  intro p e s m below meth c T X
  replace X : Sd _ _ _ _ _ "java/lang/StringBuilder" "append" _ _ _ _ _ _ _ _ _ _ _ _ _ _ _ _ := X
  refine Wp.cast (g' := mkF m 0 #[.val (.ref a), .val (.ref b)] []) (by first | (simp [entryFrame, mkF, argsToLocals, Value.category, maxLocals]; done) | rfl) ?_
  refine w_aloadN X k67_7_0 rfl (rfl) ?_
  refine w_aloadN X k67_7_1 rfl (rfl) ?_
  refine w_callSup X k67_7_2 (by decide) (wd_62 hw) (wd_63 hw) (wd_64 hw) (wd_48 hw) (wd_66 hw) (by decide) Bd.1 (argsL := [(.ref b)]) (S := []) (m_apG_16_3 hw hS ga gd Bd Tb hn hwn hz hzn) pd_20 rfl rfl rfl (by decide) (leR rfl) (by decide) (by decide) (fun T h1 v1 L1 X q1 => ?_)
  obtain ⟨rfl, r1⟩ := q1
  show Wp _ _ _ _ (T.setTop (mkF _ _ _ [(.ref a)]))
  refine w_pop X k67_7_5 rfl ?_
  refine w_aloadN X k67_7_6 rfl (rfl) ?_
  exact w_retR X rfl (rfl) rfl k67_7_7 ⟨rfl, r1⟩ (by decide) (by decide)
theorem m_gv (hw : own_hw a0 Z) {h0 : Heap} {a d : Addr} (F1 : Fld Z h0 a "java/lang/AbstractStringBuilder" "value" "[B" (.ref d)) :
    Does l Z n0 ⟨"java/lang/AbstractStringBuilder", "getValue", "()[B"⟩ jdk_68_method_64_code 1 (some (.array .byte)) [] { frames := 0, cells := 0, slots := 0, locals := 0 } #[(.ref a)] h0 (fun v h => v = some (.ref d) ∧ h0 = h) := by
  refine Does.start (plainFor_of_name pn_4) ?_
  intro p e s m below meth c T X
  replace X : Sd _ _ _ _ _ "java/lang/AbstractStringBuilder" "getValue" _ _ _ _ _ _ _ _ _ _ _ _ _ _ _ _ := X
  refine Wp.cast (g' := mkF m 0 #[.val (.ref a)] []) (by first | (simp [entryFrame, mkF, argsToLocals, Value.category, maxLocals]; done) | rfl) ?_
  refine w_aloadN X k68_64_0 rfl (rfl) ?_
  refine w_getF X k68_64_1 (host := "") (Or.inl (wd_52 hw)) Via.refl F1 (fun T X => ?_)
  exact w_retR X rfl (rfl) rfl k68_64_4 ⟨rfl, rfl⟩ (by decide) (by decide)
theorem m_al (hw : own_hw a0 Z) {h0 : Heap} {a : Addr} {k : Int32} (F3 : Fld Z h0 a "java/lang/AbstractStringBuilder" "count" "I" (.int k)) :
    Does l Z n0 ⟨"java/lang/AbstractStringBuilder", "length", "()I"⟩ jdk_68_method_6_code 1 (some .int) [] { frames := 0, cells := 0, slots := 0, locals := 0 } #[(.ref a)] h0 (fun v h => v = some (.int k) ∧ h0 = h) := by
  refine Does.start (plainFor_of_name pn_4) ?_
  intro p e s m below meth c T X
  replace X : Sd _ _ _ _ _ "java/lang/AbstractStringBuilder" "length" _ _ _ _ _ _ _ _ _ _ _ _ _ _ _ _ := X
  refine Wp.cast (g' := mkF m 0 #[.val (.ref a)] []) (by first | (simp [entryFrame, mkF, argsToLocals, Value.category, maxLocals]; done) | rfl) ?_
  refine w_aloadN X k68_6_0 rfl (rfl) ?_
  refine w_getF X k68_6_1 (host := "") (Or.inl (wd_78 hw)) Via.refl F3 (fun T X => ?_)
  exact w_retI X k68_6_4 ⟨rfl, rfl⟩ (by decide) (by decide)
theorem m_bl (hw : own_hw a0 Z) {h0 : Heap} {a : Addr} {k : Int32} (Ea : Exa Z h0 a "java/lang/StringBuilder") (F3 : Fld Z h0 a "java/lang/AbstractStringBuilder" "count" "I" (.int k)) :
    Does l Z n0 ⟨"java/lang/StringBuilder", "length", "()I"⟩ jdk_67_method_93_code 1 (some .int) [] { frames := 1, cells := 0, slots := 0, locals := 12 } #[(.ref a)] h0 (fun v h => v = some (.int k) ∧ h0 = h) := by
  refine Does.start (plainFor_of_name pn_5) ?_
  intro p e s m below meth c T X
  replace X : Sd _ _ _ _ _ "java/lang/StringBuilder" "length" _ _ _ _ _ _ _ _ _ _ _ _ _ _ _ _ := X
  refine Wp.cast (g' := mkF m 0 #[.val (.ref a)] []) (by first | (simp [entryFrame, mkF, argsToLocals, Value.category, maxLocals]; done) | rfl) ?_
  refine w_aloadN X k67_93_0 rfl (rfl) ?_
  refine w_callSup X k67_93_1 (by decide) (wd_129 hw) (wd_125 hw) (wd_64 hw) (wd_48 hw) (wd_130 hw) (by decide) Ea (argsL := []) (S := []) (m_al hw F3) pd_18 rfl rfl rfl (by decide) (leR rfl) (by decide) (by decide) (fun T h1 v1 L1 X q1 => ?_)
  obtain ⟨rfl, rfl⟩ := q1
  show Wp _ _ _ _ (T.setTop (mkF _ _ _ [(.int k)]))
  exact w_retI X k67_93_4 ⟨rfl, rfl⟩ (by decide) (by decide)
theorem m_ila (hw : own_hw a0 Z) {h0 : Heap} {zc : Int32} {fm : Value} {a : Addr} (hS : own_S Z zc fm) (F2 : Fld Z h0 a "java/lang/AbstractStringBuilder" "coder" "B" (.int 0)) :
    Does l Z n0 ⟨"java/lang/AbstractStringBuilder", "isLatin1", "()Z"⟩ jdk_68_method_68_code 1 (some .boolean) [] { frames := 0, cells := 0, slots := 0, locals := 0 } #[(.ref a)] h0 (fun v h => v = some (.int 1) ∧ h0 = h) := by
  refine Does.start (plainFor_of_name pn_4) ?_
  obtain ⟨S_zc, hzc, S_fm, hfm⟩ := id hS
  intro p e s m below meth c T X
  replace X : Sd _ _ _ _ _ "java/lang/AbstractStringBuilder" "isLatin1" _ _ _ _ _ _ _ _ _ _ _ _ _ _ _ _ := X
  refine Wp.cast (g' := mkF m 0 #[.val (.ref a)] []) (by first | (simp [entryFrame, mkF, argsToLocals, Value.category, maxLocals]; done) | rfl) ?_
  refine w_getS X k68_68_0 (host := "") (Or.inl (wd_51 hw)) Via.refl (S_zc.ext X.old.2) (fun T X => ?_)
  refine w_ifeq X k68_68_3 (fun hc => absurd hc hzc) (fun _ => ?_)
  refine w_aloadN X k68_68_6 rfl (rfl) ?_
  refine w_getF X k68_68_7 (host := "") (Or.inl (wd_54 hw)) Via.refl F2 (fun T X => ?_)
  refine w_ifne X k68_68_10 (fun hc => absurd rfl hc) (fun _ => ?_)
  refine w_iconst X (1 : Int32) k68_68_13 rfl ?_
  refine w_goto X k68_68_14 ?_
  exact w_ret_boolean X (1 : Int32) (by decide) k68_68_18 ⟨rfl, rfl⟩ (by decide) (by decide)
theorem m_tcr_16 (hw : own_hw a0 Z) {h0 : Heap} {d : Addr} {zs : List Value} (Ad : Ary Z h0 d .byte zs) (hz : zs.length.toInt32 = (16 : Int32)) (hzn : zs.length = 16) (Ed : Exa Z h0 d "[B") :
    Does l Z n0 ⟨"java/util/Arrays", "copyOfRange", "([BII)[B"⟩ jdk_65_method_132_code 3 (some (.array .byte)) [] { frames := 1, cells := 1, slots := 16, locals := 14 } #[(.ref d), (.int 0), (.int 16)] h0 (fun v h => ∃ b, v = some (.ref b) ∧ h0.size ≤ b ∧ n0 ≤ b ∧ Ary Z h b .byte zs ∧ Keep h0 h []) := by
  refine Does.start (plainFor_of_name pn_7) ?_
  intro p e s m below meth c T X
  replace X : Sd _ _ _ _ _ "java/util/Arrays" "copyOfRange" _ _ _ _ _ _ _ _ _ _ _ _ _ _ _ _ := X
  refine Wp.cast (g' := mkF m 0 #[.val (.ref d), .val (.int 0), .val (.int 16)] []) (by first | (simp [entryFrame, mkF, argsToLocals, Value.category, maxLocals]; done) | rfl) ?_
  refine w_iloadN X k65_132_0 rfl ?_
  refine w_ifne X k65_132_1 (fun hc => absurd rfl hc) (fun _ => ?_)
  refine w_iloadN X k65_132_4 rfl ?_
  refine w_aloadN X k65_132_5 rfl (rfl) ?_
  refine w_arrlen X (16 : Int32) k65_132_6 Ad hz ?_
  refine w_icmpeq X k65_132_7 (fun _ => ?_) (fun hc => absurd rfl hc)
  refine w_aloadN X k65_132_17 rfl (rfl) ?_
  refine w_clone X 16 k65_132_18 (wd_140 hw) (wd_141 hw) (wd_145 hw) (wd_143 hw) (wd_144 hw) (wd_146 hw) Ad Ed hzn rfl (by decide) (leR rfl) (by decide) (by decide) (fun T h1 b1 g1 gn1 X E1 A1 B1 => ?_)
  have sz_b1 : h0.size ≤ b1 := Nat.le_trans (Keep.refl h0 []).1 (Nat.le_of_eq g1.symm)
  have K1 : Keep h0 h1 [] := (Keep.refl h0 []).ext E1
  refine w_cast X k65_132_21 (wd_147 hw) (Ins.self B1) (fun T X => ?_)
  exact w_retR X rfl (rfl) rfl k65_132_24 ⟨_, rfl, sz_b1, gn1, A1, K1⟩ (by decide) (by decide)
theorem m_ti_16 (hw : own_hw a0 Z) {h0 : Heap} {zc : Int32} {fm : Value} {a b d : Addr} {zs : List Value} (hS : own_S Z zc fm) (ga : n0 ≤ a) (Ea : Exa Z h0 a "java/lang/String") (Va : Fld Z h0 a "java/lang/String" "value" "[B" .null) (Ca : Fld Z h0 a "java/lang/String" "coder" "B" (.int 0)) (Bd : Bld Z h0 b d (16 : Int32) zs) (hz : zs.length.toInt32 = (16 : Int32)) (hzn : zs.length = 16) (Ed : Exa Z h0 d "[B") :
    Does l Z n0 ⟨"java/lang/String", "<init>", "(Ljava/lang/AbstractStringBuilder;Ljava/lang/Void;)V"⟩ jdk_42_method_150_code 5 none [] { frames := 2, cells := 1, slots := 16, locals := 29 } #[(.ref a), (.ref b), .null] h0 (fun v h => v = none ∧ Keep h0 h [a] ∧ ∃ t, h0.size ≤ t ∧ n0 ≤ t ∧ Lat Z h a t (0 : Int32) zs) := by
  refine Does.start (plainFor_of_name pn_0) ?_
  obtain ⟨S_zc, hzc, S_fm, hfm⟩ := id hS
  intro p e s m below meth c T X
  replace X : Sd _ _ _ _ _ "java/lang/String" "<init>" _ _ _ _ _ _ _ _ _ _ _ _ _ _ _ _ := X
  refine Wp.cast (g' := mkF m 0 #[.val (.ref a), .val (.ref b), .val .null, .unset, .unset] []) (by first | (simp [entryFrame, mkF, argsToLocals, Value.category, maxLocals]; done) | rfl) ?_
  have nda : d ≠ a := Ne.symm (own_ane Ea (wd_8 hw) Bd.2.2.2.2)
  refine w_aloadN X k42_150_0 rfl (rfl) ?_
  refine w_initO X k42_150_1 (wd_18 hw) (wd_19 hw) (wd_20 hw) rfl (by decide) (leR rfl) (fun T X => ?_)
  refine w_aloadN X k42_150_4 rfl (rfl) ?_
  refine w_callV X k42_150_5 (wd_118 hw) (wd_119 hw) (nfs X.hZ (wd_121 hw)) (wd_121 hw) (wd_120 hw) (wd_48 hw) (wd_122 hw) (by decide) Bd.1 (argsL := []) (S := []) (m_gv hw Bd.2.1) pd_21 rfl rfl rfl (by decide) (leR rfl) (by decide) (by decide) (fun T h1 v1 L1 X q1 => ?_)
  obtain ⟨rfl, rfl⟩ := q1
  show Wp _ _ _ _ (T.setTop (mkF _ _ _ [(.ref d)]))
  refine w_astoreN X #[.val (.ref a), .val (.ref b), .val .null, .val (.ref d), .unset] k42_150_8 (rfl) rfl ?_
  refine w_aloadN X k42_150_9 rfl (rfl) ?_
  refine w_callV X k42_150_10 (wd_123 hw) (wd_124 hw) (own_nf (args := #[]) (mvT X.hZ (wd_121 hw)) rfl) (wd_126 hw) (wd_127 hw) (wd_40 hw) (wd_128 hw) (by decide) Bd.1 (argsL := []) (S := []) (m_bl hw Bd.1 Bd.2.2.2.1) pd_18 rfl rfl rfl (by decide) (leR rfl) (by decide) (by decide) (fun T h2 v2 L2 X q2 => ?_)
  obtain ⟨rfl, rfl⟩ := q2
  show Wp _ _ _ _ (T.setTop (mkF _ _ _ [(.int 16)]))
  refine w_istore X #[.val (.ref a), .val (.ref b), .val .null, .val (.ref d), .val (.int 16)] k42_150_13 rfl ?_
  refine w_aloadN X k42_150_15 rfl (rfl) ?_
  refine w_callV X k42_150_16 (wd_131 hw) (wd_132 hw) (nfs X.hZ (wd_134 hw)) (wd_134 hw) (wd_133 hw) (wd_48 hw) (wd_135 hw) (by decide) Bd.1 (argsL := []) (S := []) (m_ila hw hS Bd.2.2.1) pd_22 rfl rfl rfl (by decide) (leR rfl) (by decide) (by decide) (fun T h3 v3 L3 X q3 => ?_)
  obtain ⟨rfl, rfl⟩ := q3
  show Wp _ _ _ _ (T.setTop (mkF _ _ _ [(.int 1)]))
  refine w_ifeq X k42_150_19 (fun hc => absurd hc (by decide)) (fun _ => ?_)
  refine w_aloadN X k42_150_22 rfl (rfl) ?_
  refine w_iconst X (0 : Int32) k42_150_23 rfl ?_
  refine w_putFN X k42_150_24 (wd_28 hw) Via.refl Ca Ea (Or.inr ⟨(wd_24 hw), rfl, rfl⟩) (wd_8 hw) (ty := .byte) (by decide) (.int 0) rfl (by decide) ga (fun T h4 X W4 => ?_)
  have f1 := Ca.same W4
  have K2 : Keep h0 h4 [a] := (Keep.refl h0 [a]).wr W4 (Or.inl (List.mem_of_getElem? (i := 0) rfl))
  refine w_aloadN X k42_150_27 rfl (rfl) ?_
  refine w_aloadN X k42_150_28 rfl (rfl) ?_
  refine w_iconst X (0 : Int32) k42_150_29 rfl ?_
  refine w_iload X k42_150_30 rfl ?_
  have f3 := (Bd.2.2.2.2.other W4 nda)
  have f4 := (Ed.wr W4)
  refine w_callS X k42_150_32 (wd_136 hw) (wd_137 hw) (wd_138 hw) (wd_139 hw) (by decide) (argsL := [(.ref d), (.int 0), (.int 16)]) (S := [(.ref a)]) (m_tcr_16 hw f3 hz hzn f4) pd_23 rfl rfl rfl (by decide) (leR rfl) (by decide) (by decide) (fun T h5 v5 L5 X q5 => ?_)
  obtain ⟨t5, rfl, gt5, gn5, At5, Kc5⟩ := q5
  have K5 : Keep h0 h5 [a] := K2.trans Kc5 (fun x hx => nomatch hx)
  have sz_t5 : h0.size ≤ t5 := Nat.le_trans K2.1 gt5
  show Wp _ _ _ _ (T.setTop (mkF _ _ _ [(.ref t5), (.ref a)]))
  have f6 := ((Ea.wr W4).keep Kc5)
  have f7 := ((Va.other W4 (Or.inr (slot_ne (Or.inr (wd_23 hw)) (Or.inr (wd_24 hw)) (by decide) (t := (.array .byte)) (t' := .byte) (by decide) (by decide)))).keep Kc5 (List.not_mem_nil))
  refine w_putF X k42_150_35 (host := "") (Or.inl (wd_27 hw)) Via.refl f7 f6 (Or.inr ⟨(wd_23 hw), rfl, rfl⟩) (wd_8 hw) (ty := (.array .byte)) (by decide) rfl rfl ga (fun T h6 X W6 => ?_)
  have f8 := f7.same W6
  have K9 : Keep h0 h6 [a] := K5.wr W6 (Or.inl (List.mem_of_getElem? (i := 0) rfl))
  refine w_goto X k42_150_38 ?_
  have f10 := (f6.wr W6)
  have f11 := ((f1.keep Kc5 (List.not_mem_nil)).other W6 (Or.inr (slot_ne (Or.inr (wd_24 hw)) (Or.inr (wd_23 hw)) (by decide) (t := .byte) (t' := (.array .byte)) (by decide) (by decide))))
  have f12 := (At5.other W6 (Ne.symm (nel (ltl (ltl Ea.lt (Nat.le_of_eq W4.size.symm)) gt5))))
  exact w_retV X k42_150_97 ⟨rfl, K9, _, sz_t5, gn5, ⟨f10, f11, f8, f12⟩⟩ (by decide) (by decide)
theorem m_tj_16 (hw : own_hw a0 Z) {h0 : Heap} {zc : Int32} {fm : Value} {a b d : Addr} {zs : List Value} (hS : own_S Z zc fm) (ga : n0 ≤ a) (Ea : Exa Z h0 a "java/lang/String") (Va : Fld Z h0 a "java/lang/String" "value" "[B" .null) (Ca : Fld Z h0 a "java/lang/String" "coder" "B" (.int 0)) (Bd : Bld Z h0 b d (16 : Int32) zs) (hz : zs.length.toInt32 = (16 : Int32)) (hzn : zs.length = 16) (Ed : Exa Z h0 d "[B") :
    Does l Z n0 ⟨"java/lang/String", "<init>", "(Ljava/lang/StringBuilder;)V"⟩ jdk_42_method_53_code 2 none [] { frames := 3, cells := 1, slots := 16, locals := 45 } #[(.ref a), (.ref b)] h0 (fun v h => v = none ∧ Keep h0 h [a] ∧ ∃ t, h0.size ≤ t ∧ n0 ≤ t ∧ Lat Z h a t (0 : Int32) zs) := by
  refine Does.start (plainFor_of_name pn_0) ?_
  obtain ⟨S_zc, hzc, S_fm, hfm⟩ := id hS
  intro p e s m below meth c T X
  replace X : Sd _ _ _ _ _ "java/lang/String" "<init>" _ _ _ _ _ _ _ _ _ _ _ _ _ _ _ _ := X
  refine Wp.cast (g' := mkF m 0 #[.val (.ref a), .val (.ref b)] []) (by first | (simp [entryFrame, mkF, argsToLocals, Value.category, maxLocals]; done) | rfl) ?_
  refine w_aloadN X k42_53_0 rfl (rfl) ?_
  refine w_aloadN X k42_53_1 rfl (rfl) ?_
  refine w_aconstNull X k42_53_2 ?_
  refine w_callI X k42_53_3 rfl (wd_115 hw) (wd_116 hw) (wd_9 hw) (wd_117 hw) (by decide) (argsL := [(.ref b), .null]) (S := []) (m_ti_16 hw hS ga Ea Va Ca Bd hz hzn Ed) pd_24 rfl rfl rfl (by decide) (leR rfl) (by decide) (by decide) (fun T h1 v1 L1 X q1 => ?_)
  obtain ⟨rfl, r1⟩ := q1
  show Wp _ _ _ _ (T.setTop (mkF _ _ _ []))
  exact w_retV X k42_53_6 ⟨rfl, r1⟩ (by decide) (by decide)
theorem m_ts_16 (hw : own_hw a0 Z) {h0 : Heap} {zc : Int32} {fm : Value} {b d : Addr} {zs : List Value} (hS : own_S Z zc fm) (Bd : Bld Z h0 b d (16 : Int32) zs) (hz : zs.length.toInt32 = (16 : Int32)) (hzn : zs.length = 16) (Ed : Exa Z h0 d "[B") :
    Does l Z n0 ⟨"java/lang/StringBuilder", "toString", "()Ljava/lang/String;"⟩ jdk_67_method_42_code 1 (some (.object "java/lang/String")) [] { frames := 4, cells := 2, slots := 20, locals := 59 } #[(.ref b)] h0 (fun v h => ∃ a t, v = some (.ref a) ∧ h0.size ≤ a ∧ n0 ≤ a ∧ h0.size ≤ t ∧ n0 ≤ t ∧ Lat Z h a t (0 : Int32) zs ∧ Keep h0 h []) := by
  refine Does.start (plainFor_of_name pn_5) ?_
  obtain ⟨S_zc, hzc, S_fm, hfm⟩ := id hS
  intro p e s m below meth c T X
  replace X : Sd _ _ _ _ _ "java/lang/StringBuilder" "toString" _ _ _ _ _ _ _ _ _ _ _ _ _ _ _ _ := X
  refine Wp.cast (g' := mkF m 0 #[.val (.ref b)] []) (by first | (simp [entryFrame, mkF, argsToLocals, Value.category, maxLocals]; done) | rfl) ?_
  refine w_new X k67_42_0 (wd_111 hw) (wd_8 hw) (wd_9 hw) (by decide) (by decide) (fun T h1 b1 g1 gn1 X E1 A1 D1 => ?_)
  have sz_b1 : h0.size ≤ b1 := Nat.le_trans (Keep.refl h0 []).1 (Nat.le_of_eq g1.symm)
  have K1 : Keep h0 h1 [] := (Keep.refl h0 []).ext E1
  refine w_dup X k67_42_3 rfl ?_
  refine w_aloadN X k67_42_4 rfl (rfl) ?_
  refine w_callI X k67_42_5 rfl (wd_112 hw) (wd_113 hw) (wd_9 hw) (wd_114 hw) (by decide) (argsL := [(.ref b)]) (S := [(.ref b1)]) (m_tj_16 hw hS gn1 A1 (show Fld Z h1 b1 "java/lang/String" "value" "[B" .null from D1 (Or.inr (wd_23 hw)) (ty := (.array .byte)) (by decide)) (show Fld Z h1 b1 "java/lang/String" "coder" "B" (.int 0) from D1 (Or.inr (wd_24 hw)) (ty := .byte) (by decide)) ⟨Bd.1.ext E1, Bd.2.1.ext E1, Bd.2.2.1.ext E1, Bd.2.2.2.1.ext E1, Bd.2.2.2.2.ext E1⟩ hz hzn (Ed.ext E1)) pd_25 rfl rfl rfl (by decide) (leR rfl) (by decide) (by decide) (fun T h2 v2 L2 X q2 => ?_)
  obtain ⟨rfl, Kc2, t2, gt2, gn2, Tx2⟩ := q2
  have K2 : Keep h0 h2 [] := K1.trans Kc2 (fun x hx => by cases List.mem_singleton.mp hx; exact (Or.inr sz_b1))
  have sz_t2 : h0.size ≤ t2 := Nat.le_trans K1.1 gt2
  show Wp _ _ _ _ (T.setTop (mkF _ _ _ [(.ref b1)]))
  exact w_retR X rfl (rfl) rfl k67_42_8 ⟨_, _, rfl, sz_b1, gn1, sz_t2, gn2, Tx2, K2⟩ (by decide) (by decide)
theorem m_tcl_17 (hw : own_hw a0 Z) {h0 : Heap}   :
    Does l Z n0 ⟨"java/util/Arrays", "checkLength", "(II)V"⟩ jdk_65_method_131_code 2 none [] { frames := 0, cells := 0, slots := 0, locals := 0 } #[(.int 0), (.int 17)] h0 (fun v h => v = none ∧ h0 = h) := by
  refine Does.start (plainFor_of_name pn_7) ?_
  intro p e s m below meth c T X
  replace X : Sd _ _ _ _ _ "java/util/Arrays" "checkLength" _ _ _ _ _ _ _ _ _ _ _ _ _ _ _ _ := X
  refine Wp.cast (g' := mkF m 0 #[.val (.int 0), .val (.int 17)] []) (by first | (simp [entryFrame, mkF, argsToLocals, Value.category, maxLocals]; done) | rfl) ?_
  refine w_iloadN X k65_131_0 rfl ?_
  refine w_iloadN X k65_131_1 rfl ?_
  refine w_icmpge X k65_131_2 (fun _ => ?_) (fun hc => absurd hc (by decide))
  exact w_retV X k65_131_37 ⟨rfl, rfl⟩ (by decide) (by decide)
theorem m_tcb_17 (hw : own_hw a0 Z) {h0 : Heap} {d : Addr} {zs : List Value} (Ad : Ary Z h0 d .byte zs) (hz : zs.length.toInt32 = (34 : Int32)) (hzn : zs.length = 34) :
    Does l Z n0 ⟨"java/util/Arrays", "copyOfRangeByte", "([BII)[B"⟩ jdk_65_method_133_code 5 (some (.array .byte)) [] { frames := 1, cells := 1, slots := 17, locals := 40 } #[(.ref d), (.int 0), (.int 17)] h0 (fun v h => ∃ b, v = some (.ref b) ∧ h0.size ≤ b ∧ n0 ≤ b ∧ Ary Z h b .byte (zs.take 17) ∧ Keep h0 h []) := by
  refine Does.start (plainFor_of_name pn_7) ?_
  intro p e s m below meth c T X
  replace X : Sd _ _ _ _ _ "java/util/Arrays" "copyOfRangeByte" _ _ _ _ _ _ _ _ _ _ _ _ _ _ _ _ := X
  refine Wp.cast (g' := mkF m 0 #[.val (.ref d), .val (.int 0), .val (.int 17), .unset, .unset] []) (by first | (simp [entryFrame, mkF, argsToLocals, Value.category, maxLocals]; done) | rfl) ?_
  refine w_iloadN X k65_133_0 rfl ?_
  refine w_iloadN X k65_133_1 rfl ?_
  refine w_callS X k65_133_2 (wd_280 hw) (wd_281 hw) (wd_138 hw) (wd_282 hw) (by decide) (argsL := [(.int 0), (.int 17)]) (S := []) (m_tcl_17 hw) pd_26 rfl rfl rfl (by decide) (leR rfl) (by decide) (by decide) (fun T h1 v1 L1 X q1 => ?_)
  obtain ⟨rfl, rfl⟩ := q1
  show Wp _ _ _ _ (T.setTop (mkF _ _ _ []))
  refine w_iloadN X k65_133_5 rfl ?_
  refine w_iloadN X k65_133_6 rfl ?_
  refine w_isub X k65_133_7 ?_
  refine w_istoreN X #[.val (.ref d), .val (.int 0), .val (.int 17), .val (.int 17), .unset] k65_133_8 rfl ?_
  refine w_iloadN X k65_133_9 rfl ?_
  refine w_newarrE X k65_133_10 (wd_22 hw) 17 17 "[B" rfl (by decide) (by decide) (by decide) (by decide) (by decide) (by decide) (fun T h2 b2 g2 gn2 X E2 A2 B2 => ?_)
  replace A2 : Ary Z h2 b2 .byte (List.replicate 17 (.int 0)) := A2
  have sz_b2 : h0.size ≤ b2 := Nat.le_trans (Keep.refl h0 []).1 (Nat.le_of_eq g2.symm)
  have K1 : Keep h0 h2 [] := (Keep.refl h0 []).ext E2
  refine w_astore X #[.val (.ref d), .val (.int 0), .val (.int 17), .val (.int 17), .val (.ref b2)] k65_133_12 (rfl) rfl ?_
  refine w_aloadN X k65_133_14 rfl (rfl) ?_
  refine w_iloadN X k65_133_15 rfl ?_
  refine w_aload X k65_133_16 rfl (rfl) ?_
  refine w_iconst X (0 : Int32) k65_133_18 rfl ?_
  refine w_aloadN X k65_133_19 rfl (rfl) ?_
  have f2 := (Ad.ext E2)
  refine w_arrlen X (34 : Int32) k65_133_20 f2 hz ?_
  refine w_iloadN X k65_133_21 rfl ?_
  refine w_isub X k65_133_22 ?_
  refine w_iloadN X k65_133_23 rfl ?_
  refine w_callS X k65_133_24 (wd_273 hw) (wd_274 hw) (wd_266 hw) (wd_275 hw) (by decide) (argsL := [(.int 34), (.int 17)]) (S := [(.int 0), (.ref b2), (.int 0), (.ref d)]) (m_min hw (r := (17 : Int32)) (by decide)) pd_12 rfl rfl rfl (by decide) (leR rfl) (by decide) (by decide) (fun T h3 v3 L3 X q3 => ?_)
  obtain ⟨rfl, rfl⟩ := q3
  show Wp _ _ _ _ (T.setTop (mkF _ _ _ [(.int 17), (.int 0), (.ref b2), (.int 0), (.ref d)]))
  refine w_cpB X k65_133_27 (wd_276 hw) (wd_104 hw) (wd_102 hw) (wd_103 hw) rfl (zs.take 17) f2 A2 gn2 (by decide) (by decide) (by rw [hzn]; decide) rfl (own_takeP (by rw [hzn]; decide)) rfl (by decide) (leR rfl) (fun T h4 L4 X Kc4 A4 => ?_)
  have K3 : Keep h0 h4 [] := K1.trans Kc4 (fun x hx => by cases List.mem_singleton.mp hx; exact (Or.inr sz_b2))
  refine w_aload X k65_133_30 rfl (rfl) ?_
  exact w_retR X rfl (rfl) rfl k65_133_32 ⟨_, rfl, sz_b2, gn2, A4, K3⟩ (by decide) (by decide)
theorem m_tcr_17 (hw : own_hw a0 Z) {h0 : Heap} {d : Addr} {zs : List Value} (Ad : Ary Z h0 d .byte zs) (hz : zs.length.toInt32 = (34 : Int32)) (hzn : zs.length = 34) :
    Does l Z n0 ⟨"java/util/Arrays", "copyOfRange", "([BII)[B"⟩ jdk_65_method_132_code 3 (some (.array .byte)) [] { frames := 2, cells := 1, slots := 17, locals := 56 } #[(.ref d), (.int 0), (.int 17)] h0 (fun v h => ∃ b, v = some (.ref b) ∧ h0.size ≤ b ∧ n0 ≤ b ∧ Ary Z h b .byte (zs.take 17) ∧ Keep h0 h []) := by
  refine Does.start (plainFor_of_name pn_7) ?_
  intro p e s m below meth c T X
  replace X : Sd _ _ _ _ _ "java/util/Arrays" "copyOfRange" _ _ _ _ _ _ _ _ _ _ _ _ _ _ _ _ := X
  refine Wp.cast (g' := mkF m 0 #[.val (.ref d), .val (.int 0), .val (.int 17)] []) (by first | (simp [entryFrame, mkF, argsToLocals, Value.category, maxLocals]; done) | rfl) ?_
  refine w_iloadN X k65_132_0 rfl ?_
  refine w_ifne X k65_132_1 (fun hc => absurd rfl hc) (fun _ => ?_)
  refine w_iloadN X k65_132_4 rfl ?_
  refine w_aloadN X k65_132_5 rfl (rfl) ?_
  refine w_arrlen X (34 : Int32) k65_132_6 Ad hz ?_
  refine w_icmpeq X k65_132_7 (fun hc => absurd hc (by decide)) (fun _ => ?_)
  refine w_aloadN X k65_132_10 rfl (rfl) ?_
  refine w_iloadN X k65_132_11 rfl ?_
  refine w_iloadN X k65_132_12 rfl ?_
  refine w_callS X k65_132_13 (wd_277 hw) (wd_278 hw) (wd_138 hw) (wd_279 hw) (by decide) (argsL := [(.ref d), (.int 0), (.int 17)]) (S := []) (m_tcb_17 hw Ad hz hzn) pd_23 rfl rfl rfl (by decide) (leR rfl) (by decide) (by decide) (fun T h1 v1 L1 X q1 => ?_)
  obtain ⟨t1, rfl, r1⟩ := q1
  show Wp _ _ _ _ (T.setTop (mkF _ _ _ [(.ref t1)]))
  exact w_retR X rfl (rfl) rfl k65_132_16 ⟨t1, rfl, r1⟩ (by decide) (by decide)
theorem m_ti_17 (hw : own_hw a0 Z) {h0 : Heap} {zc : Int32} {fm : Value} {a b d : Addr} {zs : List Value} (hS : own_S Z zc fm) (ga : n0 ≤ a) (Ea : Exa Z h0 a "java/lang/String") (Va : Fld Z h0 a "java/lang/String" "value" "[B" .null) (Ca : Fld Z h0 a "java/lang/String" "coder" "B" (.int 0)) (Bd : Bld Z h0 b d (17 : Int32) zs) (hz : zs.length.toInt32 = (34 : Int32)) (hzn : zs.length = 34) :
    Does l Z n0 ⟨"java/lang/String", "<init>", "(Ljava/lang/AbstractStringBuilder;Ljava/lang/Void;)V"⟩ jdk_42_method_150_code 5 none [] { frames := 3, cells := 1, slots := 17, locals := 71 } #[(.ref a), (.ref b), .null] h0 (fun v h => v = none ∧ Keep h0 h [a] ∧ ∃ t, h0.size ≤ t ∧ n0 ≤ t ∧ Lat Z h a t (0 : Int32) (zs.take 17)) := by
  refine Does.start (plainFor_of_name pn_0) ?_
  obtain ⟨S_zc, hzc, S_fm, hfm⟩ := id hS
  intro p e s m below meth c T X
  replace X : Sd _ _ _ _ _ "java/lang/String" "<init>" _ _ _ _ _ _ _ _ _ _ _ _ _ _ _ _ := X
  refine Wp.cast (g' := mkF m 0 #[.val (.ref a), .val (.ref b), .val .null, .unset, .unset] []) (by first | (simp [entryFrame, mkF, argsToLocals, Value.category, maxLocals]; done) | rfl) ?_
  have nda : d ≠ a := Ne.symm (own_ane Ea (wd_8 hw) Bd.2.2.2.2)
  refine w_aloadN X k42_150_0 rfl (rfl) ?_
  refine w_initO X k42_150_1 (wd_18 hw) (wd_19 hw) (wd_20 hw) rfl (by decide) (leR rfl) (fun T X => ?_)
  refine w_aloadN X k42_150_4 rfl (rfl) ?_
  refine w_callV X k42_150_5 (wd_118 hw) (wd_119 hw) (nfs X.hZ (wd_121 hw)) (wd_121 hw) (wd_120 hw) (wd_48 hw) (wd_122 hw) (by decide) Bd.1 (argsL := []) (S := []) (m_gv hw Bd.2.1) pd_21 rfl rfl rfl (by decide) (leR rfl) (by decide) (by decide) (fun T h1 v1 L1 X q1 => ?_)
  obtain ⟨rfl, rfl⟩ := q1
  show Wp _ _ _ _ (T.setTop (mkF _ _ _ [(.ref d)]))
  refine w_astoreN X #[.val (.ref a), .val (.ref b), .val .null, .val (.ref d), .unset] k42_150_8 (rfl) rfl ?_
  refine w_aloadN X k42_150_9 rfl (rfl) ?_
  refine w_callV X k42_150_10 (wd_123 hw) (wd_124 hw) (own_nf (args := #[]) (mvT X.hZ (wd_121 hw)) rfl) (wd_126 hw) (wd_127 hw) (wd_40 hw) (wd_128 hw) (by decide) Bd.1 (argsL := []) (S := []) (m_bl hw Bd.1 Bd.2.2.2.1) pd_18 rfl rfl rfl (by decide) (leR rfl) (by decide) (by decide) (fun T h2 v2 L2 X q2 => ?_)
  obtain ⟨rfl, rfl⟩ := q2
  show Wp _ _ _ _ (T.setTop (mkF _ _ _ [(.int 17)]))
  refine w_istore X #[.val (.ref a), .val (.ref b), .val .null, .val (.ref d), .val (.int 17)] k42_150_13 rfl ?_
  refine w_aloadN X k42_150_15 rfl (rfl) ?_
  refine w_callV X k42_150_16 (wd_131 hw) (wd_132 hw) (nfs X.hZ (wd_134 hw)) (wd_134 hw) (wd_133 hw) (wd_48 hw) (wd_135 hw) (by decide) Bd.1 (argsL := []) (S := []) (m_ila hw hS Bd.2.2.1) pd_22 rfl rfl rfl (by decide) (leR rfl) (by decide) (by decide) (fun T h3 v3 L3 X q3 => ?_)
  obtain ⟨rfl, rfl⟩ := q3
  show Wp _ _ _ _ (T.setTop (mkF _ _ _ [(.int 1)]))
  refine w_ifeq X k42_150_19 (fun hc => absurd hc (by decide)) (fun _ => ?_)
  refine w_aloadN X k42_150_22 rfl (rfl) ?_
  refine w_iconst X (0 : Int32) k42_150_23 rfl ?_
  refine w_putFN X k42_150_24 (wd_28 hw) Via.refl Ca Ea (Or.inr ⟨(wd_24 hw), rfl, rfl⟩) (wd_8 hw) (ty := .byte) (by decide) (.int 0) rfl (by decide) ga (fun T h4 X W4 => ?_)
  have f1 := Ca.same W4
  have K2 : Keep h0 h4 [a] := (Keep.refl h0 [a]).wr W4 (Or.inl (List.mem_of_getElem? (i := 0) rfl))
  refine w_aloadN X k42_150_27 rfl (rfl) ?_
  refine w_aloadN X k42_150_28 rfl (rfl) ?_
  refine w_iconst X (0 : Int32) k42_150_29 rfl ?_
  refine w_iload X k42_150_30 rfl ?_
  have f3 := (Bd.2.2.2.2.other W4 nda)
  refine w_callS X k42_150_32 (wd_136 hw) (wd_137 hw) (wd_138 hw) (wd_139 hw) (by decide) (argsL := [(.ref d), (.int 0), (.int 17)]) (S := [(.ref a)]) (m_tcr_17 hw f3 hz hzn) pd_23 rfl rfl rfl (by decide) (leR rfl) (by decide) (by decide) (fun T h5 v5 L5 X q5 => ?_)
  obtain ⟨t5, rfl, gt5, gn5, At5, Kc5⟩ := q5
  have K4 : Keep h0 h5 [a] := K2.trans Kc5 (fun x hx => nomatch hx)
  have sz_t5 : h0.size ≤ t5 := Nat.le_trans K2.1 gt5
  show Wp _ _ _ _ (T.setTop (mkF _ _ _ [(.ref t5), (.ref a)]))
  have f5 := ((Ea.wr W4).keep Kc5)
  have f6 := ((Va.other W4 (Or.inr (slot_ne (Or.inr (wd_23 hw)) (Or.inr (wd_24 hw)) (by decide) (t := (.array .byte)) (t' := .byte) (by decide) (by decide)))).keep Kc5 (List.not_mem_nil))
  refine w_putF X k42_150_35 (host := "") (Or.inl (wd_27 hw)) Via.refl f6 f5 (Or.inr ⟨(wd_23 hw), rfl, rfl⟩) (wd_8 hw) (ty := (.array .byte)) (by decide) rfl rfl ga (fun T h6 X W6 => ?_)
  have f7 := f6.same W6
  have K8 : Keep h0 h6 [a] := K4.wr W6 (Or.inl (List.mem_of_getElem? (i := 0) rfl))
  refine w_goto X k42_150_38 ?_
  have f9 := (f5.wr W6)
  have f10 := ((f1.keep Kc5 (List.not_mem_nil)).other W6 (Or.inr (slot_ne (Or.inr (wd_24 hw)) (Or.inr (wd_23 hw)) (by decide) (t := .byte) (t' := (.array .byte)) (by decide) (by decide))))
  have f11 := (At5.other W6 (Ne.symm (nel (ltl (ltl Ea.lt (Nat.le_of_eq W4.size.symm)) gt5))))
  exact w_retV X k42_150_97 ⟨rfl, K8, _, sz_t5, gn5, ⟨f9, f10, f7, f11⟩⟩ (by decide) (by decide)
theorem m_tj_17 (hw : own_hw a0 Z) {h0 : Heap} {zc : Int32} {fm : Value} {a b d : Addr} {zs : List Value} (hS : own_S Z zc fm) (ga : n0 ≤ a) (Ea : Exa Z h0 a "java/lang/String") (Va : Fld Z h0 a "java/lang/String" "value" "[B" .null) (Ca : Fld Z h0 a "java/lang/String" "coder" "B" (.int 0)) (Bd : Bld Z h0 b d (17 : Int32) zs) (hz : zs.length.toInt32 = (34 : Int32)) (hzn : zs.length = 34) :
    Does l Z n0 ⟨"java/lang/String", "<init>", "(Ljava/lang/StringBuilder;)V"⟩ jdk_42_method_53_code 2 none [] { frames := 4, cells := 1, slots := 17, locals := 87 } #[(.ref a), (.ref b)] h0 (fun v h => v = none ∧ Keep h0 h [a] ∧ ∃ t, h0.size ≤ t ∧ n0 ≤ t ∧ Lat Z h a t (0 : Int32) (zs.take 17)) := by
  refine Does.start (plainFor_of_name pn_0) ?_
  obtain ⟨S_zc, hzc, S_fm, hfm⟩ := id hS
  intro p e s m below meth c T X
  replace X : Sd _ _ _ _ _ "java/lang/String" "<init>" _ _ _ _ _ _ _ _ _ _ _ _ _ _ _ _ := X
  refine Wp.cast (g' := mkF m 0 #[.val (.ref a), .val (.ref b)] []) (by first | (simp [entryFrame, mkF, argsToLocals, Value.category, maxLocals]; done) | rfl) ?_
  refine w_aloadN X k42_53_0 rfl (rfl) ?_
  refine w_aloadN X k42_53_1 rfl (rfl) ?_
  refine w_aconstNull X k42_53_2 ?_
  refine w_callI X k42_53_3 rfl (wd_115 hw) (wd_116 hw) (wd_9 hw) (wd_117 hw) (by decide) (argsL := [(.ref b), .null]) (S := []) (m_ti_17 hw hS ga Ea Va Ca Bd hz hzn) pd_24 rfl rfl rfl (by decide) (leR rfl) (by decide) (by decide) (fun T h1 v1 L1 X q1 => ?_)
  obtain ⟨rfl, r1⟩ := q1
  show Wp _ _ _ _ (T.setTop (mkF _ _ _ []))
  exact w_retV X k42_53_6 ⟨rfl, r1⟩ (by decide) (by decide)
theorem m_ts_17 (hw : own_hw a0 Z) {h0 : Heap} {zc : Int32} {fm : Value} {b d : Addr} {zs : List Value} (hS : own_S Z zc fm) (Bd : Bld Z h0 b d (17 : Int32) zs) (hz : zs.length.toInt32 = (34 : Int32)) (hzn : zs.length = 34) :
    Does l Z n0 ⟨"java/lang/StringBuilder", "toString", "()Ljava/lang/String;"⟩ jdk_67_method_42_code 1 (some (.object "java/lang/String")) [] { frames := 5, cells := 2, slots := 21, locals := 101 } #[(.ref b)] h0 (fun v h => ∃ a t, v = some (.ref a) ∧ h0.size ≤ a ∧ n0 ≤ a ∧ h0.size ≤ t ∧ n0 ≤ t ∧ Lat Z h a t (0 : Int32) (zs.take 17) ∧ Keep h0 h []) := by
  refine Does.start (plainFor_of_name pn_5) ?_
  obtain ⟨S_zc, hzc, S_fm, hfm⟩ := id hS
  intro p e s m below meth c T X
  replace X : Sd _ _ _ _ _ "java/lang/StringBuilder" "toString" _ _ _ _ _ _ _ _ _ _ _ _ _ _ _ _ := X
  refine Wp.cast (g' := mkF m 0 #[.val (.ref b)] []) (by first | (simp [entryFrame, mkF, argsToLocals, Value.category, maxLocals]; done) | rfl) ?_
  refine w_new X k67_42_0 (wd_111 hw) (wd_8 hw) (wd_9 hw) (by decide) (by decide) (fun T h1 b1 g1 gn1 X E1 A1 D1 => ?_)
  have sz_b1 : h0.size ≤ b1 := Nat.le_trans (Keep.refl h0 []).1 (Nat.le_of_eq g1.symm)
  have K1 : Keep h0 h1 [] := (Keep.refl h0 []).ext E1
  refine w_dup X k67_42_3 rfl ?_
  refine w_aloadN X k67_42_4 rfl (rfl) ?_
  refine w_callI X k67_42_5 rfl (wd_112 hw) (wd_113 hw) (wd_9 hw) (wd_114 hw) (by decide) (argsL := [(.ref b)]) (S := [(.ref b1)]) (m_tj_17 hw hS gn1 A1 (show Fld Z h1 b1 "java/lang/String" "value" "[B" .null from D1 (Or.inr (wd_23 hw)) (ty := (.array .byte)) (by decide)) (show Fld Z h1 b1 "java/lang/String" "coder" "B" (.int 0) from D1 (Or.inr (wd_24 hw)) (ty := .byte) (by decide)) ⟨Bd.1.ext E1, Bd.2.1.ext E1, Bd.2.2.1.ext E1, Bd.2.2.2.1.ext E1, Bd.2.2.2.2.ext E1⟩ hz hzn) pd_25 rfl rfl rfl (by decide) (leR rfl) (by decide) (by decide) (fun T h2 v2 L2 X q2 => ?_)
  obtain ⟨rfl, Kc2, t2, gt2, gn2, Tx2⟩ := q2
  have K2 : Keep h0 h2 [] := K1.trans Kc2 (fun x hx => by cases List.mem_singleton.mp hx; exact (Or.inr sz_b1))
  have sz_t2 : h0.size ≤ t2 := Nat.le_trans K1.1 gt2
  show Wp _ _ _ _ (T.setTop (mkF _ _ _ [(.ref b1)]))
  exact w_retR X rfl (rfl) rfl k67_42_8 ⟨_, _, rfl, sz_b1, gn1, sz_t2, gn2, Tx2, K2⟩ (by decide) (by decide)
theorem m_tcl_18 (hw : own_hw a0 Z) {h0 : Heap}   :
    Does l Z n0 ⟨"java/util/Arrays", "checkLength", "(II)V"⟩ jdk_65_method_131_code 2 none [] { frames := 0, cells := 0, slots := 0, locals := 0 } #[(.int 0), (.int 18)] h0 (fun v h => v = none ∧ h0 = h) := by
  refine Does.start (plainFor_of_name pn_7) ?_
  intro p e s m below meth c T X
  replace X : Sd _ _ _ _ _ "java/util/Arrays" "checkLength" _ _ _ _ _ _ _ _ _ _ _ _ _ _ _ _ := X
  refine Wp.cast (g' := mkF m 0 #[.val (.int 0), .val (.int 18)] []) (by first | (simp [entryFrame, mkF, argsToLocals, Value.category, maxLocals]; done) | rfl) ?_
  refine w_iloadN X k65_131_0 rfl ?_
  refine w_iloadN X k65_131_1 rfl ?_
  refine w_icmpge X k65_131_2 (fun _ => ?_) (fun hc => absurd hc (by decide))
  exact w_retV X k65_131_37 ⟨rfl, rfl⟩ (by decide) (by decide)
theorem m_tcb_18 (hw : own_hw a0 Z) {h0 : Heap} {d : Addr} {zs : List Value} (Ad : Ary Z h0 d .byte zs) (hz : zs.length.toInt32 = (34 : Int32)) (hzn : zs.length = 34) :
    Does l Z n0 ⟨"java/util/Arrays", "copyOfRangeByte", "([BII)[B"⟩ jdk_65_method_133_code 5 (some (.array .byte)) [] { frames := 1, cells := 1, slots := 18, locals := 40 } #[(.ref d), (.int 0), (.int 18)] h0 (fun v h => ∃ b, v = some (.ref b) ∧ h0.size ≤ b ∧ n0 ≤ b ∧ Ary Z h b .byte (zs.take 18) ∧ Keep h0 h []) := by
  refine Does.start (plainFor_of_name pn_7) ?_
  intro p e s m below meth c T X
  replace X : Sd _ _ _ _ _ "java/util/Arrays" "copyOfRangeByte" _ _ _ _ _ _ _ _ _ _ _ _ _ _ _ _ := X
  refine Wp.cast (g' := mkF m 0 #[.val (.ref d), .val (.int 0), .val (.int 18), .unset, .unset] []) (by first | (simp [entryFrame, mkF, argsToLocals, Value.category, maxLocals]; done) | rfl) ?_
  refine w_iloadN X k65_133_0 rfl ?_
  refine w_iloadN X k65_133_1 rfl ?_
  refine w_callS X k65_133_2 (wd_280 hw) (wd_281 hw) (wd_138 hw) (wd_282 hw) (by decide) (argsL := [(.int 0), (.int 18)]) (S := []) (m_tcl_18 hw) pd_26 rfl rfl rfl (by decide) (leR rfl) (by decide) (by decide) (fun T h1 v1 L1 X q1 => ?_)
  obtain ⟨rfl, rfl⟩ := q1
  show Wp _ _ _ _ (T.setTop (mkF _ _ _ []))
  refine w_iloadN X k65_133_5 rfl ?_
  refine w_iloadN X k65_133_6 rfl ?_
  refine w_isub X k65_133_7 ?_
  refine w_istoreN X #[.val (.ref d), .val (.int 0), .val (.int 18), .val (.int 18), .unset] k65_133_8 rfl ?_
  refine w_iloadN X k65_133_9 rfl ?_
  refine w_newarrE X k65_133_10 (wd_22 hw) 18 18 "[B" rfl (by decide) (by decide) (by decide) (by decide) (by decide) (by decide) (fun T h2 b2 g2 gn2 X E2 A2 B2 => ?_)
  replace A2 : Ary Z h2 b2 .byte (List.replicate 18 (.int 0)) := A2
  have sz_b2 : h0.size ≤ b2 := Nat.le_trans (Keep.refl h0 []).1 (Nat.le_of_eq g2.symm)
  have K1 : Keep h0 h2 [] := (Keep.refl h0 []).ext E2
  refine w_astore X #[.val (.ref d), .val (.int 0), .val (.int 18), .val (.int 18), .val (.ref b2)] k65_133_12 (rfl) rfl ?_
  refine w_aloadN X k65_133_14 rfl (rfl) ?_
  refine w_iloadN X k65_133_15 rfl ?_
  refine w_aload X k65_133_16 rfl (rfl) ?_
  refine w_iconst X (0 : Int32) k65_133_18 rfl ?_
  refine w_aloadN X k65_133_19 rfl (rfl) ?_
  have f2 := (Ad.ext E2)
  refine w_arrlen X (34 : Int32) k65_133_20 f2 hz ?_
  refine w_iloadN X k65_133_21 rfl ?_
  refine w_isub X k65_133_22 ?_
  refine w_iloadN X k65_133_23 rfl ?_
  refine w_callS X k65_133_24 (wd_273 hw) (wd_274 hw) (wd_266 hw) (wd_275 hw) (by decide) (argsL := [(.int 34), (.int 18)]) (S := [(.int 0), (.ref b2), (.int 0), (.ref d)]) (m_min hw (r := (18 : Int32)) (by decide)) pd_12 rfl rfl rfl (by decide) (leR rfl) (by decide) (by decide) (fun T h3 v3 L3 X q3 => ?_)
  obtain ⟨rfl, rfl⟩ := q3
  show Wp _ _ _ _ (T.setTop (mkF _ _ _ [(.int 18), (.int 0), (.ref b2), (.int 0), (.ref d)]))
  refine w_cpB X k65_133_27 (wd_276 hw) (wd_104 hw) (wd_102 hw) (wd_103 hw) rfl (zs.take 18) f2 A2 gn2 (by decide) (by decide) (by rw [hzn]; decide) rfl (own_takeP (by rw [hzn]; decide)) rfl (by decide) (leR rfl) (fun T h4 L4 X Kc4 A4 => ?_)
  have K3 : Keep h0 h4 [] := K1.trans Kc4 (fun x hx => by cases List.mem_singleton.mp hx; exact (Or.inr sz_b2))
  refine w_aload X k65_133_30 rfl (rfl) ?_
  exact w_retR X rfl (rfl) rfl k65_133_32 ⟨_, rfl, sz_b2, gn2, A4, K3⟩ (by decide) (by decide)
theorem m_tcr_18 (hw : own_hw a0 Z) {h0 : Heap} {d : Addr} {zs : List Value} (Ad : Ary Z h0 d .byte zs) (hz : zs.length.toInt32 = (34 : Int32)) (hzn : zs.length = 34) :
    Does l Z n0 ⟨"java/util/Arrays", "copyOfRange", "([BII)[B"⟩ jdk_65_method_132_code 3 (some (.array .byte)) [] { frames := 2, cells := 1, slots := 18, locals := 56 } #[(.ref d), (.int 0), (.int 18)] h0 (fun v h => ∃ b, v = some (.ref b) ∧ h0.size ≤ b ∧ n0 ≤ b ∧ Ary Z h b .byte (zs.take 18) ∧ Keep h0 h []) := by
  refine Does.start (plainFor_of_name pn_7) ?_
  intro p e s m below meth c T X
  replace X : Sd _ _ _ _ _ "java/util/Arrays" "copyOfRange" _ _ _ _ _ _ _ _ _ _ _ _ _ _ _ _ := X
  refine Wp.cast (g' := mkF m 0 #[.val (.ref d), .val (.int 0), .val (.int 18)] []) (by first | (simp [entryFrame, mkF, argsToLocals, Value.category, maxLocals]; done) | rfl) ?_
  refine w_iloadN X k65_132_0 rfl ?_
  refine w_ifne X k65_132_1 (fun hc => absurd rfl hc) (fun _ => ?_)
  refine w_iloadN X k65_132_4 rfl ?_
  refine w_aloadN X k65_132_5 rfl (rfl) ?_
  refine w_arrlen X (34 : Int32) k65_132_6 Ad hz ?_
  refine w_icmpeq X k65_132_7 (fun hc => absurd hc (by decide)) (fun _ => ?_)
  refine w_aloadN X k65_132_10 rfl (rfl) ?_
  refine w_iloadN X k65_132_11 rfl ?_
  refine w_iloadN X k65_132_12 rfl ?_
  refine w_callS X k65_132_13 (wd_277 hw) (wd_278 hw) (wd_138 hw) (wd_279 hw) (by decide) (argsL := [(.ref d), (.int 0), (.int 18)]) (S := []) (m_tcb_18 hw Ad hz hzn) pd_23 rfl rfl rfl (by decide) (leR rfl) (by decide) (by decide) (fun T h1 v1 L1 X q1 => ?_)
  obtain ⟨t1, rfl, r1⟩ := q1
  show Wp _ _ _ _ (T.setTop (mkF _ _ _ [(.ref t1)]))
  exact w_retR X rfl (rfl) rfl k65_132_16 ⟨t1, rfl, r1⟩ (by decide) (by decide)
theorem m_ti_18 (hw : own_hw a0 Z) {h0 : Heap} {zc : Int32} {fm : Value} {a b d : Addr} {zs : List Value} (hS : own_S Z zc fm) (ga : n0 ≤ a) (Ea : Exa Z h0 a "java/lang/String") (Va : Fld Z h0 a "java/lang/String" "value" "[B" .null) (Ca : Fld Z h0 a "java/lang/String" "coder" "B" (.int 0)) (Bd : Bld Z h0 b d (18 : Int32) zs) (hz : zs.length.toInt32 = (34 : Int32)) (hzn : zs.length = 34) :
    Does l Z n0 ⟨"java/lang/String", "<init>", "(Ljava/lang/AbstractStringBuilder;Ljava/lang/Void;)V"⟩ jdk_42_method_150_code 5 none [] { frames := 3, cells := 1, slots := 18, locals := 71 } #[(.ref a), (.ref b), .null] h0 (fun v h => v = none ∧ Keep h0 h [a] ∧ ∃ t, h0.size ≤ t ∧ n0 ≤ t ∧ Lat Z h a t (0 : Int32) (zs.take 18)) := by
  refine Does.start (plainFor_of_name pn_0) ?_
  obtain ⟨S_zc, hzc, S_fm, hfm⟩ := id hS
  intro p e s m below meth c T X
  replace X : Sd _ _ _ _ _ "java/lang/String" "<init>" _ _ _ _ _ _ _ _ _ _ _ _ _ _ _ _ := X
  refine Wp.cast (g' := mkF m 0 #[.val (.ref a), .val (.ref b), .val .null, .unset, .unset] []) (by first | (simp [entryFrame, mkF, argsToLocals, Value.category, maxLocals]; done) | rfl) ?_
  have nda : d ≠ a := Ne.symm (own_ane Ea (wd_8 hw) Bd.2.2.2.2)
  refine w_aloadN X k42_150_0 rfl (rfl) ?_
  refine w_initO X k42_150_1 (wd_18 hw) (wd_19 hw) (wd_20 hw) rfl (by decide) (leR rfl) (fun T X => ?_)
  refine w_aloadN X k42_150_4 rfl (rfl) ?_
  refine w_callV X k42_150_5 (wd_118 hw) (wd_119 hw) (nfs X.hZ (wd_121 hw)) (wd_121 hw) (wd_120 hw) (wd_48 hw) (wd_122 hw) (by decide) Bd.1 (argsL := []) (S := []) (m_gv hw Bd.2.1) pd_21 rfl rfl rfl (by decide) (leR rfl) (by decide) (by decide) (fun T h1 v1 L1 X q1 => ?_)
  obtain ⟨rfl, rfl⟩ := q1
  show Wp _ _ _ _ (T.setTop (mkF _ _ _ [(.ref d)]))
  refine w_astoreN X #[.val (.ref a), .val (.ref b), .val .null, .val (.ref d), .unset] k42_150_8 (rfl) rfl ?_
  refine w_aloadN X k42_150_9 rfl (rfl) ?_
  refine w_callV X k42_150_10 (wd_123 hw) (wd_124 hw) (own_nf (args := #[]) (mvT X.hZ (wd_121 hw)) rfl) (wd_126 hw) (wd_127 hw) (wd_40 hw) (wd_128 hw) (by decide) Bd.1 (argsL := []) (S := []) (m_bl hw Bd.1 Bd.2.2.2.1) pd_18 rfl rfl rfl (by decide) (leR rfl) (by decide) (by decide) (fun T h2 v2 L2 X q2 => ?_)
  obtain ⟨rfl, rfl⟩ := q2
  show Wp _ _ _ _ (T.setTop (mkF _ _ _ [(.int 18)]))
  refine w_istore X #[.val (.ref a), .val (.ref b), .val .null, .val (.ref d), .val (.int 18)] k42_150_13 rfl ?_
  refine w_aloadN X k42_150_15 rfl (rfl) ?_
  refine w_callV X k42_150_16 (wd_131 hw) (wd_132 hw) (nfs X.hZ (wd_134 hw)) (wd_134 hw) (wd_133 hw) (wd_48 hw) (wd_135 hw) (by decide) Bd.1 (argsL := []) (S := []) (m_ila hw hS Bd.2.2.1) pd_22 rfl rfl rfl (by decide) (leR rfl) (by decide) (by decide) (fun T h3 v3 L3 X q3 => ?_)
  obtain ⟨rfl, rfl⟩ := q3
  show Wp _ _ _ _ (T.setTop (mkF _ _ _ [(.int 1)]))
  refine w_ifeq X k42_150_19 (fun hc => absurd hc (by decide)) (fun _ => ?_)
  refine w_aloadN X k42_150_22 rfl (rfl) ?_
  refine w_iconst X (0 : Int32) k42_150_23 rfl ?_
  refine w_putFN X k42_150_24 (wd_28 hw) Via.refl Ca Ea (Or.inr ⟨(wd_24 hw), rfl, rfl⟩) (wd_8 hw) (ty := .byte) (by decide) (.int 0) rfl (by decide) ga (fun T h4 X W4 => ?_)
  have f1 := Ca.same W4
  have K2 : Keep h0 h4 [a] := (Keep.refl h0 [a]).wr W4 (Or.inl (List.mem_of_getElem? (i := 0) rfl))
  refine w_aloadN X k42_150_27 rfl (rfl) ?_
  refine w_aloadN X k42_150_28 rfl (rfl) ?_
  refine w_iconst X (0 : Int32) k42_150_29 rfl ?_
  refine w_iload X k42_150_30 rfl ?_
  have f3 := (Bd.2.2.2.2.other W4 nda)
  refine w_callS X k42_150_32 (wd_136 hw) (wd_137 hw) (wd_138 hw) (wd_139 hw) (by decide) (argsL := [(.ref d), (.int 0), (.int 18)]) (S := [(.ref a)]) (m_tcr_18 hw f3 hz hzn) pd_23 rfl rfl rfl (by decide) (leR rfl) (by decide) (by decide) (fun T h5 v5 L5 X q5 => ?_)
  obtain ⟨t5, rfl, gt5, gn5, At5, Kc5⟩ := q5
  have K4 : Keep h0 h5 [a] := K2.trans Kc5 (fun x hx => nomatch hx)
  have sz_t5 : h0.size ≤ t5 := Nat.le_trans K2.1 gt5
  show Wp _ _ _ _ (T.setTop (mkF _ _ _ [(.ref t5), (.ref a)]))
  have f5 := ((Ea.wr W4).keep Kc5)
  have f6 := ((Va.other W4 (Or.inr (slot_ne (Or.inr (wd_23 hw)) (Or.inr (wd_24 hw)) (by decide) (t := (.array .byte)) (t' := .byte) (by decide) (by decide)))).keep Kc5 (List.not_mem_nil))
  refine w_putF X k42_150_35 (host := "") (Or.inl (wd_27 hw)) Via.refl f6 f5 (Or.inr ⟨(wd_23 hw), rfl, rfl⟩) (wd_8 hw) (ty := (.array .byte)) (by decide) rfl rfl ga (fun T h6 X W6 => ?_)
  have f7 := f6.same W6
  have K8 : Keep h0 h6 [a] := K4.wr W6 (Or.inl (List.mem_of_getElem? (i := 0) rfl))
  refine w_goto X k42_150_38 ?_
  have f9 := (f5.wr W6)
  have f10 := ((f1.keep Kc5 (List.not_mem_nil)).other W6 (Or.inr (slot_ne (Or.inr (wd_24 hw)) (Or.inr (wd_23 hw)) (by decide) (t := .byte) (t' := (.array .byte)) (by decide) (by decide))))
  have f11 := (At5.other W6 (Ne.symm (nel (ltl (ltl Ea.lt (Nat.le_of_eq W4.size.symm)) gt5))))
  exact w_retV X k42_150_97 ⟨rfl, K8, _, sz_t5, gn5, ⟨f9, f10, f7, f11⟩⟩ (by decide) (by decide)
theorem m_tj_18 (hw : own_hw a0 Z) {h0 : Heap} {zc : Int32} {fm : Value} {a b d : Addr} {zs : List Value} (hS : own_S Z zc fm) (ga : n0 ≤ a) (Ea : Exa Z h0 a "java/lang/String") (Va : Fld Z h0 a "java/lang/String" "value" "[B" .null) (Ca : Fld Z h0 a "java/lang/String" "coder" "B" (.int 0)) (Bd : Bld Z h0 b d (18 : Int32) zs) (hz : zs.length.toInt32 = (34 : Int32)) (hzn : zs.length = 34) :
    Does l Z n0 ⟨"java/lang/String", "<init>", "(Ljava/lang/StringBuilder;)V"⟩ jdk_42_method_53_code 2 none [] { frames := 4, cells := 1, slots := 18, locals := 87 } #[(.ref a), (.ref b)] h0 (fun v h => v = none ∧ Keep h0 h [a] ∧ ∃ t, h0.size ≤ t ∧ n0 ≤ t ∧ Lat Z h a t (0 : Int32) (zs.take 18)) := by
  refine Does.start (plainFor_of_name pn_0) ?_
  obtain ⟨S_zc, hzc, S_fm, hfm⟩ := id hS
  intro p e s m below meth c T X
  replace X : Sd _ _ _ _ _ "java/lang/String" "<init>" _ _ _ _ _ _ _ _ _ _ _ _ _ _ _ _ := X
  refine Wp.cast (g' := mkF m 0 #[.val (.ref a), .val (.ref b)] []) (by first | (simp [entryFrame, mkF, argsToLocals, Value.category, maxLocals]; done) | rfl) ?_
  refine w_aloadN X k42_53_0 rfl (rfl) ?_
  refine w_aloadN X k42_53_1 rfl (rfl) ?_
  refine w_aconstNull X k42_53_2 ?_
  refine w_callI X k42_53_3 rfl (wd_115 hw) (wd_116 hw) (wd_9 hw) (wd_117 hw) (by decide) (argsL := [(.ref b), .null]) (S := []) (m_ti_18 hw hS ga Ea Va Ca Bd hz hzn) pd_24 rfl rfl rfl (by decide) (leR rfl) (by decide) (by decide) (fun T h1 v1 L1 X q1 => ?_)
  obtain ⟨rfl, r1⟩ := q1
  show Wp _ _ _ _ (T.setTop (mkF _ _ _ []))
  exact w_retV X k42_53_6 ⟨rfl, r1⟩ (by decide) (by decide)
theorem m_ts_18 (hw : own_hw a0 Z) {h0 : Heap} {zc : Int32} {fm : Value} {b d : Addr} {zs : List Value} (hS : own_S Z zc fm) (Bd : Bld Z h0 b d (18 : Int32) zs) (hz : zs.length.toInt32 = (34 : Int32)) (hzn : zs.length = 34) :
    Does l Z n0 ⟨"java/lang/StringBuilder", "toString", "()Ljava/lang/String;"⟩ jdk_67_method_42_code 1 (some (.object "java/lang/String")) [] { frames := 5, cells := 2, slots := 22, locals := 101 } #[(.ref b)] h0 (fun v h => ∃ a t, v = some (.ref a) ∧ h0.size ≤ a ∧ n0 ≤ a ∧ h0.size ≤ t ∧ n0 ≤ t ∧ Lat Z h a t (0 : Int32) (zs.take 18) ∧ Keep h0 h []) := by
  refine Does.start (plainFor_of_name pn_5) ?_
  obtain ⟨S_zc, hzc, S_fm, hfm⟩ := id hS
  intro p e s m below meth c T X
  replace X : Sd _ _ _ _ _ "java/lang/StringBuilder" "toString" _ _ _ _ _ _ _ _ _ _ _ _ _ _ _ _ := X
  refine Wp.cast (g' := mkF m 0 #[.val (.ref b)] []) (by first | (simp [entryFrame, mkF, argsToLocals, Value.category, maxLocals]; done) | rfl) ?_
  refine w_new X k67_42_0 (wd_111 hw) (wd_8 hw) (wd_9 hw) (by decide) (by decide) (fun T h1 b1 g1 gn1 X E1 A1 D1 => ?_)
  have sz_b1 : h0.size ≤ b1 := Nat.le_trans (Keep.refl h0 []).1 (Nat.le_of_eq g1.symm)
  have K1 : Keep h0 h1 [] := (Keep.refl h0 []).ext E1
  refine w_dup X k67_42_3 rfl ?_
  refine w_aloadN X k67_42_4 rfl (rfl) ?_
  refine w_callI X k67_42_5 rfl (wd_112 hw) (wd_113 hw) (wd_9 hw) (wd_114 hw) (by decide) (argsL := [(.ref b)]) (S := [(.ref b1)]) (m_tj_18 hw hS gn1 A1 (show Fld Z h1 b1 "java/lang/String" "value" "[B" .null from D1 (Or.inr (wd_23 hw)) (ty := (.array .byte)) (by decide)) (show Fld Z h1 b1 "java/lang/String" "coder" "B" (.int 0) from D1 (Or.inr (wd_24 hw)) (ty := .byte) (by decide)) ⟨Bd.1.ext E1, Bd.2.1.ext E1, Bd.2.2.1.ext E1, Bd.2.2.2.1.ext E1, Bd.2.2.2.2.ext E1⟩ hz hzn) pd_25 rfl rfl rfl (by decide) (leR rfl) (by decide) (by decide) (fun T h2 v2 L2 X q2 => ?_)
  obtain ⟨rfl, Kc2, t2, gt2, gn2, Tx2⟩ := q2
  have K2 : Keep h0 h2 [] := K1.trans Kc2 (fun x hx => by cases List.mem_singleton.mp hx; exact (Or.inr sz_b1))
  have sz_t2 : h0.size ≤ t2 := Nat.le_trans K1.1 gt2
  show Wp _ _ _ _ (T.setTop (mkF _ _ _ [(.ref b1)]))
  exact w_retR X rfl (rfl) rfl k67_42_8 ⟨_, _, rfl, sz_b1, gn1, sz_t2, gn2, Tx2, K2⟩ (by decide) (by decide)
theorem m_tcl_19 (hw : own_hw a0 Z) {h0 : Heap}   :
    Does l Z n0 ⟨"java/util/Arrays", "checkLength", "(II)V"⟩ jdk_65_method_131_code 2 none [] { frames := 0, cells := 0, slots := 0, locals := 0 } #[(.int 0), (.int 19)] h0 (fun v h => v = none ∧ h0 = h) := by
  refine Does.start (plainFor_of_name pn_7) ?_
  intro p e s m below meth c T X
  replace X : Sd _ _ _ _ _ "java/util/Arrays" "checkLength" _ _ _ _ _ _ _ _ _ _ _ _ _ _ _ _ := X
  refine Wp.cast (g' := mkF m 0 #[.val (.int 0), .val (.int 19)] []) (by first | (simp [entryFrame, mkF, argsToLocals, Value.category, maxLocals]; done) | rfl) ?_
  refine w_iloadN X k65_131_0 rfl ?_
  refine w_iloadN X k65_131_1 rfl ?_
  refine w_icmpge X k65_131_2 (fun _ => ?_) (fun hc => absurd hc (by decide))
  exact w_retV X k65_131_37 ⟨rfl, rfl⟩ (by decide) (by decide)
theorem m_tcb_19 (hw : own_hw a0 Z) {h0 : Heap} {d : Addr} {zs : List Value} (Ad : Ary Z h0 d .byte zs) (hz : zs.length.toInt32 = (34 : Int32)) (hzn : zs.length = 34) :
    Does l Z n0 ⟨"java/util/Arrays", "copyOfRangeByte", "([BII)[B"⟩ jdk_65_method_133_code 5 (some (.array .byte)) [] { frames := 1, cells := 1, slots := 19, locals := 40 } #[(.ref d), (.int 0), (.int 19)] h0 (fun v h => ∃ b, v = some (.ref b) ∧ h0.size ≤ b ∧ n0 ≤ b ∧ Ary Z h b .byte (zs.take 19) ∧ Keep h0 h []) := by
  refine Does.start (plainFor_of_name pn_7) ?_
  intro p e s m below meth c T X
  replace X : Sd _ _ _ _ _ "java/util/Arrays" "copyOfRangeByte" _ _ _ _ _ _ _ _ _ _ _ _ _ _ _ _ := X
  refine Wp.cast (g' := mkF m 0 #[.val (.ref d), .val (.int 0), .val (.int 19), .unset, .unset] []) (by first | (simp [entryFrame, mkF, argsToLocals, Value.category, maxLocals]; done) | rfl) ?_
  refine w_iloadN X k65_133_0 rfl ?_
  refine w_iloadN X k65_133_1 rfl ?_
  refine w_callS X k65_133_2 (wd_280 hw) (wd_281 hw) (wd_138 hw) (wd_282 hw) (by decide) (argsL := [(.int 0), (.int 19)]) (S := []) (m_tcl_19 hw) pd_26 rfl rfl rfl (by decide) (leR rfl) (by decide) (by decide) (fun T h1 v1 L1 X q1 => ?_)
  obtain ⟨rfl, rfl⟩ := q1
  show Wp _ _ _ _ (T.setTop (mkF _ _ _ []))
  refine w_iloadN X k65_133_5 rfl ?_
  refine w_iloadN X k65_133_6 rfl ?_
  refine w_isub X k65_133_7 ?_
  refine w_istoreN X #[.val (.ref d), .val (.int 0), .val (.int 19), .val (.int 19), .unset] k65_133_8 rfl ?_
  refine w_iloadN X k65_133_9 rfl ?_
  refine w_newarrE X k65_133_10 (wd_22 hw) 19 19 "[B" rfl (by decide) (by decide) (by decide) (by decide) (by decide) (by decide) (fun T h2 b2 g2 gn2 X E2 A2 B2 => ?_)
  replace A2 : Ary Z h2 b2 .byte (List.replicate 19 (.int 0)) := A2
  have sz_b2 : h0.size ≤ b2 := Nat.le_trans (Keep.refl h0 []).1 (Nat.le_of_eq g2.symm)
  have K1 : Keep h0 h2 [] := (Keep.refl h0 []).ext E2
  refine w_astore X #[.val (.ref d), .val (.int 0), .val (.int 19), .val (.int 19), .val (.ref b2)] k65_133_12 (rfl) rfl ?_
  refine w_aloadN X k65_133_14 rfl (rfl) ?_
  refine w_iloadN X k65_133_15 rfl ?_
  refine w_aload X k65_133_16 rfl (rfl) ?_
  refine w_iconst X (0 : Int32) k65_133_18 rfl ?_
  refine w_aloadN X k65_133_19 rfl (rfl) ?_
  have f2 := (Ad.ext E2)
  refine w_arrlen X (34 : Int32) k65_133_20 f2 hz ?_
  refine w_iloadN X k65_133_21 rfl ?_
  refine w_isub X k65_133_22 ?_
  refine w_iloadN X k65_133_23 rfl ?_
  refine w_callS X k65_133_24 (wd_273 hw) (wd_274 hw) (wd_266 hw) (wd_275 hw) (by decide) (argsL := [(.int 34), (.int 19)]) (S := [(.int 0), (.ref b2), (.int 0), (.ref d)]) (m_min hw (r := (19 : Int32)) (by decide)) pd_12 rfl rfl rfl (by decide) (leR rfl) (by decide) (by decide) (fun T h3 v3 L3 X q3 => ?_)
  obtain ⟨rfl, rfl⟩ := q3
  show Wp _ _ _ _ (T.setTop (mkF _ _ _ [(.int 19), (.int 0), (.ref b2), (.int 0), (.ref d)]))
  refine w_cpB X k65_133_27 (wd_276 hw) (wd_104 hw) (wd_102 hw) (wd_103 hw) rfl (zs.take 19) f2 A2 gn2 (by decide) (by decide) (by rw [hzn]; decide) rfl (own_takeP (by rw [hzn]; decide)) rfl (by decide) (leR rfl) (fun T h4 L4 X Kc4 A4 => ?_)
  have K3 : Keep h0 h4 [] := K1.trans Kc4 (fun x hx => by cases List.mem_singleton.mp hx; exact (Or.inr sz_b2))
  refine w_aload X k65_133_30 rfl (rfl) ?_
  exact w_retR X rfl (rfl) rfl k65_133_32 ⟨_, rfl, sz_b2, gn2, A4, K3⟩ (by decide) (by decide)
theorem m_tcr_19 (hw : own_hw a0 Z) {h0 : Heap} {d : Addr} {zs : List Value} (Ad : Ary Z h0 d .byte zs) (hz : zs.length.toInt32 = (34 : Int32)) (hzn : zs.length = 34) :
    Does l Z n0 ⟨"java/util/Arrays", "copyOfRange", "([BII)[B"⟩ jdk_65_method_132_code 3 (some (.array .byte)) [] { frames := 2, cells := 1, slots := 19, locals := 56 } #[(.ref d), (.int 0), (.int 19)] h0 (fun v h => ∃ b, v = some (.ref b) ∧ h0.size ≤ b ∧ n0 ≤ b ∧ Ary Z h b .byte (zs.take 19) ∧ Keep h0 h []) := by
  refine Does.start (plainFor_of_name pn_7) ?_
  intro p e s m below meth c T X
  replace X : Sd _ _ _ _ _ "java/util/Arrays" "copyOfRange" _ _ _ _ _ _ _ _ _ _ _ _ _ _ _ _ := X
  refine Wp.cast (g' := mkF m 0 #[.val (.ref d), .val (.int 0), .val (.int 19)] []) (by first | (simp [entryFrame, mkF, argsToLocals, Value.category, maxLocals]; done) | rfl) ?_
  refine w_iloadN X k65_132_0 rfl ?_
  refine w_ifne X k65_132_1 (fun hc => absurd rfl hc) (fun _ => ?_)
  refine w_iloadN X k65_132_4 rfl ?_
  refine w_aloadN X k65_132_5 rfl (rfl) ?_
  refine w_arrlen X (34 : Int32) k65_132_6 Ad hz ?_
  refine w_icmpeq X k65_132_7 (fun hc => absurd hc (by decide)) (fun _ => ?_)
  refine w_aloadN X k65_132_10 rfl (rfl) ?_
  refine w_iloadN X k65_132_11 rfl ?_
  refine w_iloadN X k65_132_12 rfl ?_
  refine w_callS X k65_132_13 (wd_277 hw) (wd_278 hw) (wd_138 hw) (wd_279 hw) (by decide) (argsL := [(.ref d), (.int 0), (.int 19)]) (S := []) (m_tcb_19 hw Ad hz hzn) pd_23 rfl rfl rfl (by decide) (leR rfl) (by decide) (by decide) (fun T h1 v1 L1 X q1 => ?_)
  obtain ⟨t1, rfl, r1⟩ := q1
  show Wp _ _ _ _ (T.setTop (mkF _ _ _ [(.ref t1)]))
  exact w_retR X rfl (rfl) rfl k65_132_16 ⟨t1, rfl, r1⟩ (by decide) (by decide)
theorem m_ti_19 (hw : own_hw a0 Z) {h0 : Heap} {zc : Int32} {fm : Value} {a b d : Addr} {zs : List Value} (hS : own_S Z zc fm) (ga : n0 ≤ a) (Ea : Exa Z h0 a "java/lang/String") (Va : Fld Z h0 a "java/lang/String" "value" "[B" .null) (Ca : Fld Z h0 a "java/lang/String" "coder" "B" (.int 0)) (Bd : Bld Z h0 b d (19 : Int32) zs) (hz : zs.length.toInt32 = (34 : Int32)) (hzn : zs.length = 34) :
    Does l Z n0 ⟨"java/lang/String", "<init>", "(Ljava/lang/AbstractStringBuilder;Ljava/lang/Void;)V"⟩ jdk_42_method_150_code 5 none [] { frames := 3, cells := 1, slots := 19, locals := 71 } #[(.ref a), (.ref b), .null] h0 (fun v h => v = none ∧ Keep h0 h [a] ∧ ∃ t, h0.size ≤ t ∧ n0 ≤ t ∧ Lat Z h a t (0 : Int32) (zs.take 19)) := by
  refine Does.start (plainFor_of_name pn_0) ?_
  obtain ⟨S_zc, hzc, S_fm, hfm⟩ := id hS
  intro p e s m below meth c T X
  replace X : Sd _ _ _ _ _ "java/lang/String" "<init>" _ _ _ _ _ _ _ _ _ _ _ _ _ _ _ _ := X
  refine Wp.cast (g' := mkF m 0 #[.val (.ref a), .val (.ref b), .val .null, .unset, .unset] []) (by first | (simp [entryFrame, mkF, argsToLocals, Value.category, maxLocals]; done) | rfl) ?_
  have nda : d ≠ a := Ne.symm (own_ane Ea (wd_8 hw) Bd.2.2.2.2)
  refine w_aloadN X k42_150_0 rfl (rfl) ?_
  refine w_initO X k42_150_1 (wd_18 hw) (wd_19 hw) (wd_20 hw) rfl (by decide) (leR rfl) (fun T X => ?_)
  refine w_aloadN X k42_150_4 rfl (rfl) ?_
  refine w_callV X k42_150_5 (wd_118 hw) (wd_119 hw) (nfs X.hZ (wd_121 hw)) (wd_121 hw) (wd_120 hw) (wd_48 hw) (wd_122 hw) (by decide) Bd.1 (argsL := []) (S := []) (m_gv hw Bd.2.1) pd_21 rfl rfl rfl (by decide) (leR rfl) (by decide) (by decide) (fun T h1 v1 L1 X q1 => ?_)
  obtain ⟨rfl, rfl⟩ := q1
  show Wp _ _ _ _ (T.setTop (mkF _ _ _ [(.ref d)]))
  refine w_astoreN X #[.val (.ref a), .val (.ref b), .val .null, .val (.ref d), .unset] k42_150_8 (rfl) rfl ?_
  refine w_aloadN X k42_150_9 rfl (rfl) ?_
  refine w_callV X k42_150_10 (wd_123 hw) (wd_124 hw) (own_nf (args := #[]) (mvT X.hZ (wd_121 hw)) rfl) (wd_126 hw) (wd_127 hw) (wd_40 hw) (wd_128 hw) (by decide) Bd.1 (argsL := []) (S := []) (m_bl hw Bd.1 Bd.2.2.2.1) pd_18 rfl rfl rfl (by decide) (leR rfl) (by decide) (by decide) (fun T h2 v2 L2 X q2 => ?_)
  obtain ⟨rfl, rfl⟩ := q2
  show Wp _ _ _ _ (T.setTop (mkF _ _ _ [(.int 19)]))
  refine w_istore X #[.val (.ref a), .val (.ref b), .val .null, .val (.ref d), .val (.int 19)] k42_150_13 rfl ?_
  refine w_aloadN X k42_150_15 rfl (rfl) ?_
  refine w_callV X k42_150_16 (wd_131 hw) (wd_132 hw) (nfs X.hZ (wd_134 hw)) (wd_134 hw) (wd_133 hw) (wd_48 hw) (wd_135 hw) (by decide) Bd.1 (argsL := []) (S := []) (m_ila hw hS Bd.2.2.1) pd_22 rfl rfl rfl (by decide) (leR rfl) (by decide) (by decide) (fun T h3 v3 L3 X q3 => ?_)
  obtain ⟨rfl, rfl⟩ := q3
  show Wp _ _ _ _ (T.setTop (mkF _ _ _ [(.int 1)]))
  refine w_ifeq X k42_150_19 (fun hc => absurd hc (by decide)) (fun _ => ?_)
  refine w_aloadN X k42_150_22 rfl (rfl) ?_
  refine w_iconst X (0 : Int32) k42_150_23 rfl ?_
  refine w_putFN X k42_150_24 (wd_28 hw) Via.refl Ca Ea (Or.inr ⟨(wd_24 hw), rfl, rfl⟩) (wd_8 hw) (ty := .byte) (by decide) (.int 0) rfl (by decide) ga (fun T h4 X W4 => ?_)
  have f1 := Ca.same W4
  have K2 : Keep h0 h4 [a] := (Keep.refl h0 [a]).wr W4 (Or.inl (List.mem_of_getElem? (i := 0) rfl))
  refine w_aloadN X k42_150_27 rfl (rfl) ?_
  refine w_aloadN X k42_150_28 rfl (rfl) ?_
  refine w_iconst X (0 : Int32) k42_150_29 rfl ?_
  refine w_iload X k42_150_30 rfl ?_
  have f3 := (Bd.2.2.2.2.other W4 nda)
  refine w_callS X k42_150_32 (wd_136 hw) (wd_137 hw) (wd_138 hw) (wd_139 hw) (by decide) (argsL := [(.ref d), (.int 0), (.int 19)]) (S := [(.ref a)]) (m_tcr_19 hw f3 hz hzn) pd_23 rfl rfl rfl (by decide) (leR rfl) (by decide) (by decide) (fun T h5 v5 L5 X q5 => ?_)
  obtain ⟨t5, rfl, gt5, gn5, At5, Kc5⟩ := q5
  have K4 : Keep h0 h5 [a] := K2.trans Kc5 (fun x hx => nomatch hx)
  have sz_t5 : h0.size ≤ t5 := Nat.le_trans K2.1 gt5
  show Wp _ _ _ _ (T.setTop (mkF _ _ _ [(.ref t5), (.ref a)]))
  have f5 := ((Ea.wr W4).keep Kc5)
  have f6 := ((Va.other W4 (Or.inr (slot_ne (Or.inr (wd_23 hw)) (Or.inr (wd_24 hw)) (by decide) (t := (.array .byte)) (t' := .byte) (by decide) (by decide)))).keep Kc5 (List.not_mem_nil))
  refine w_putF X k42_150_35 (host := "") (Or.inl (wd_27 hw)) Via.refl f6 f5 (Or.inr ⟨(wd_23 hw), rfl, rfl⟩) (wd_8 hw) (ty := (.array .byte)) (by decide) rfl rfl ga (fun T h6 X W6 => ?_)
  have f7 := f6.same W6
  have K8 : Keep h0 h6 [a] := K4.wr W6 (Or.inl (List.mem_of_getElem? (i := 0) rfl))
  refine w_goto X k42_150_38 ?_
  have f9 := (f5.wr W6)
  have f10 := ((f1.keep Kc5 (List.not_mem_nil)).other W6 (Or.inr (slot_ne (Or.inr (wd_24 hw)) (Or.inr (wd_23 hw)) (by decide) (t := .byte) (t' := (.array .byte)) (by decide) (by decide))))
  have f11 := (At5.other W6 (Ne.symm (nel (ltl (ltl Ea.lt (Nat.le_of_eq W4.size.symm)) gt5))))
  exact w_retV X k42_150_97 ⟨rfl, K8, _, sz_t5, gn5, ⟨f9, f10, f7, f11⟩⟩ (by decide) (by decide)
theorem m_tj_19 (hw : own_hw a0 Z) {h0 : Heap} {zc : Int32} {fm : Value} {a b d : Addr} {zs : List Value} (hS : own_S Z zc fm) (ga : n0 ≤ a) (Ea : Exa Z h0 a "java/lang/String") (Va : Fld Z h0 a "java/lang/String" "value" "[B" .null) (Ca : Fld Z h0 a "java/lang/String" "coder" "B" (.int 0)) (Bd : Bld Z h0 b d (19 : Int32) zs) (hz : zs.length.toInt32 = (34 : Int32)) (hzn : zs.length = 34) :
    Does l Z n0 ⟨"java/lang/String", "<init>", "(Ljava/lang/StringBuilder;)V"⟩ jdk_42_method_53_code 2 none [] { frames := 4, cells := 1, slots := 19, locals := 87 } #[(.ref a), (.ref b)] h0 (fun v h => v = none ∧ Keep h0 h [a] ∧ ∃ t, h0.size ≤ t ∧ n0 ≤ t ∧ Lat Z h a t (0 : Int32) (zs.take 19)) := by
  refine Does.start (plainFor_of_name pn_0) ?_
  obtain ⟨S_zc, hzc, S_fm, hfm⟩ := id hS
  intro p e s m below meth c T X
  replace X : Sd _ _ _ _ _ "java/lang/String" "<init>" _ _ _ _ _ _ _ _ _ _ _ _ _ _ _ _ := X
  refine Wp.cast (g' := mkF m 0 #[.val (.ref a), .val (.ref b)] []) (by first | (simp [entryFrame, mkF, argsToLocals, Value.category, maxLocals]; done) | rfl) ?_
  refine w_aloadN X k42_53_0 rfl (rfl) ?_
  refine w_aloadN X k42_53_1 rfl (rfl) ?_
  refine w_aconstNull X k42_53_2 ?_
  refine w_callI X k42_53_3 rfl (wd_115 hw) (wd_116 hw) (wd_9 hw) (wd_117 hw) (by decide) (argsL := [(.ref b), .null]) (S := []) (m_ti_19 hw hS ga Ea Va Ca Bd hz hzn) pd_24 rfl rfl rfl (by decide) (leR rfl) (by decide) (by decide) (fun T h1 v1 L1 X q1 => ?_)
  obtain ⟨rfl, r1⟩ := q1
  show Wp _ _ _ _ (T.setTop (mkF _ _ _ []))
  exact w_retV X k42_53_6 ⟨rfl, r1⟩ (by decide) (by decide)
theorem m_ts_19 (hw : own_hw a0 Z) {h0 : Heap} {zc : Int32} {fm : Value} {b d : Addr} {zs : List Value} (hS : own_S Z zc fm) (Bd : Bld Z h0 b d (19 : Int32) zs) (hz : zs.length.toInt32 = (34 : Int32)) (hzn : zs.length = 34) :
    Does l Z n0 ⟨"java/lang/StringBuilder", "toString", "()Ljava/lang/String;"⟩ jdk_67_method_42_code 1 (some (.object "java/lang/String")) [] { frames := 5, cells := 2, slots := 23, locals := 101 } #[(.ref b)] h0 (fun v h => ∃ a t, v = some (.ref a) ∧ h0.size ≤ a ∧ n0 ≤ a ∧ h0.size ≤ t ∧ n0 ≤ t ∧ Lat Z h a t (0 : Int32) (zs.take 19) ∧ Keep h0 h []) := by
  refine Does.start (plainFor_of_name pn_5) ?_
  obtain ⟨S_zc, hzc, S_fm, hfm⟩ := id hS
  intro p e s m below meth c T X
  replace X : Sd _ _ _ _ _ "java/lang/StringBuilder" "toString" _ _ _ _ _ _ _ _ _ _ _ _ _ _ _ _ := X
  refine Wp.cast (g' := mkF m 0 #[.val (.ref b)] []) (by first | (simp [entryFrame, mkF, argsToLocals, Value.category, maxLocals]; done) | rfl) ?_
  refine w_new X k67_42_0 (wd_111 hw) (wd_8 hw) (wd_9 hw) (by decide) (by decide) (fun T h1 b1 g1 gn1 X E1 A1 D1 => ?_)
  have sz_b1 : h0.size ≤ b1 := Nat.le_trans (Keep.refl h0 []).1 (Nat.le_of_eq g1.symm)
  have K1 : Keep h0 h1 [] := (Keep.refl h0 []).ext E1
  refine w_dup X k67_42_3 rfl ?_
  refine w_aloadN X k67_42_4 rfl (rfl) ?_
  refine w_callI X k67_42_5 rfl (wd_112 hw) (wd_113 hw) (wd_9 hw) (wd_114 hw) (by decide) (argsL := [(.ref b)]) (S := [(.ref b1)]) (m_tj_19 hw hS gn1 A1 (show Fld Z h1 b1 "java/lang/String" "value" "[B" .null from D1 (Or.inr (wd_23 hw)) (ty := (.array .byte)) (by decide)) (show Fld Z h1 b1 "java/lang/String" "coder" "B" (.int 0) from D1 (Or.inr (wd_24 hw)) (ty := .byte) (by decide)) ⟨Bd.1.ext E1, Bd.2.1.ext E1, Bd.2.2.1.ext E1, Bd.2.2.2.1.ext E1, Bd.2.2.2.2.ext E1⟩ hz hzn) pd_25 rfl rfl rfl (by decide) (leR rfl) (by decide) (by decide) (fun T h2 v2 L2 X q2 => ?_)
  obtain ⟨rfl, Kc2, t2, gt2, gn2, Tx2⟩ := q2
  have K2 : Keep h0 h2 [] := K1.trans Kc2 (fun x hx => by cases List.mem_singleton.mp hx; exact (Or.inr sz_b1))
  have sz_t2 : h0.size ≤ t2 := Nat.le_trans K1.1 gt2
  show Wp _ _ _ _ (T.setTop (mkF _ _ _ [(.ref b1)]))
  exact w_retR X rfl (rfl) rfl k67_42_8 ⟨_, _, rfl, sz_b1, gn1, sz_t2, gn2, Tx2, K2⟩ (by decide) (by decide)
theorem m_tcl_20 (hw : own_hw a0 Z) {h0 : Heap}   :
    Does l Z n0 ⟨"java/util/Arrays", "checkLength", "(II)V"⟩ jdk_65_method_131_code 2 none [] { frames := 0, cells := 0, slots := 0, locals := 0 } #[(.int 0), (.int 20)] h0 (fun v h => v = none ∧ h0 = h) := by
  refine Does.start (plainFor_of_name pn_7) ?_
  intro p e s m below meth c T X
  replace X : Sd _ _ _ _ _ "java/util/Arrays" "checkLength" _ _ _ _ _ _ _ _ _ _ _ _ _ _ _ _ := X
  refine Wp.cast (g' := mkF m 0 #[.val (.int 0), .val (.int 20)] []) (by first | (simp [entryFrame, mkF, argsToLocals, Value.category, maxLocals]; done) | rfl) ?_
  refine w_iloadN X k65_131_0 rfl ?_
  refine w_iloadN X k65_131_1 rfl ?_
  refine w_icmpge X k65_131_2 (fun _ => ?_) (fun hc => absurd hc (by decide))
  exact w_retV X k65_131_37 ⟨rfl, rfl⟩ (by decide) (by decide)
theorem m_tcb_20 (hw : own_hw a0 Z) {h0 : Heap} {d : Addr} {zs : List Value} (Ad : Ary Z h0 d .byte zs) (hz : zs.length.toInt32 = (34 : Int32)) (hzn : zs.length = 34) :
    Does l Z n0 ⟨"java/util/Arrays", "copyOfRangeByte", "([BII)[B"⟩ jdk_65_method_133_code 5 (some (.array .byte)) [] { frames := 1, cells := 1, slots := 20, locals := 40 } #[(.ref d), (.int 0), (.int 20)] h0 (fun v h => ∃ b, v = some (.ref b) ∧ h0.size ≤ b ∧ n0 ≤ b ∧ Ary Z h b .byte (zs.take 20) ∧ Keep h0 h []) := by
  refine Does.start (plainFor_of_name pn_7) ?_
  intro p e s m below meth c T X
  replace X : Sd _ _ _ _ _ "java/util/Arrays" "copyOfRangeByte" _ _ _ _ _ _ _ _ _ _ _ _ _ _ _ _ := X
  refine Wp.cast (g' := mkF m 0 #[.val (.ref d), .val (.int 0), .val (.int 20), .unset, .unset] []) (by first | (simp [entryFrame, mkF, argsToLocals, Value.category, maxLocals]; done) | rfl) ?_
  refine w_iloadN X k65_133_0 rfl ?_
  refine w_iloadN X k65_133_1 rfl ?_
  refine w_callS X k65_133_2 (wd_280 hw) (wd_281 hw) (wd_138 hw) (wd_282 hw) (by decide) (argsL := [(.int 0), (.int 20)]) (S := []) (m_tcl_20 hw) pd_26 rfl rfl rfl (by decide) (leR rfl) (by decide) (by decide) (fun T h1 v1 L1 X q1 => ?_)
  obtain ⟨rfl, rfl⟩ := q1
  show Wp _ _ _ _ (T.setTop (mkF _ _ _ []))
  refine w_iloadN X k65_133_5 rfl ?_
  refine w_iloadN X k65_133_6 rfl ?_
  refine w_isub X k65_133_7 ?_
  refine w_istoreN X #[.val (.ref d), .val (.int 0), .val (.int 20), .val (.int 20), .unset] k65_133_8 rfl ?_
  refine w_iloadN X k65_133_9 rfl ?_
  refine w_newarrE X k65_133_10 (wd_22 hw) 20 20 "[B" rfl (by decide) (by decide) (by decide) (by decide) (by decide) (by decide) (fun T h2 b2 g2 gn2 X E2 A2 B2 => ?_)
  replace A2 : Ary Z h2 b2 .byte (List.replicate 20 (.int 0)) := A2
  have sz_b2 : h0.size ≤ b2 := Nat.le_trans (Keep.refl h0 []).1 (Nat.le_of_eq g2.symm)
  have K1 : Keep h0 h2 [] := (Keep.refl h0 []).ext E2
  refine w_astore X #[.val (.ref d), .val (.int 0), .val (.int 20), .val (.int 20), .val (.ref b2)] k65_133_12 (rfl) rfl ?_
  refine w_aloadN X k65_133_14 rfl (rfl) ?_
  refine w_iloadN X k65_133_15 rfl ?_
  refine w_aload X k65_133_16 rfl (rfl) ?_
  refine w_iconst X (0 : Int32) k65_133_18 rfl ?_
  refine w_aloadN X k65_133_19 rfl (rfl) ?_
  have f2 := (Ad.ext E2)
  refine w_arrlen X (34 : Int32) k65_133_20 f2 hz ?_
  refine w_iloadN X k65_133_21 rfl ?_
  refine w_isub X k65_133_22 ?_
  refine w_iloadN X k65_133_23 rfl ?_
  refine w_callS X k65_133_24 (wd_273 hw) (wd_274 hw) (wd_266 hw) (wd_275 hw) (by decide) (argsL := [(.int 34), (.int 20)]) (S := [(.int 0), (.ref b2), (.int 0), (.ref d)]) (m_min hw (r := (20 : Int32)) (by decide)) pd_12 rfl rfl rfl (by decide) (leR rfl) (by decide) (by decide) (fun T h3 v3 L3 X q3 => ?_)
  obtain ⟨rfl, rfl⟩ := q3
  show Wp _ _ _ _ (T.setTop (mkF _ _ _ [(.int 20), (.int 0), (.ref b2), (.int 0), (.ref d)]))
  refine w_cpB X k65_133_27 (wd_276 hw) (wd_104 hw) (wd_102 hw) (wd_103 hw) rfl (zs.take 20) f2 A2 gn2 (by decide) (by decide) (by rw [hzn]; decide) rfl (own_takeP (by rw [hzn]; decide)) rfl (by decide) (leR rfl) (fun T h4 L4 X Kc4 A4 => ?_)
  have K3 : Keep h0 h4 [] := K1.trans Kc4 (fun x hx => by cases List.mem_singleton.mp hx; exact (Or.inr sz_b2))
  refine w_aload X k65_133_30 rfl (rfl) ?_
  exact w_retR X rfl (rfl) rfl k65_133_32 ⟨_, rfl, sz_b2, gn2, A4, K3⟩ (by decide) (by decide)
theorem m_tcr_20 (hw : own_hw a0 Z) {h0 : Heap} {d : Addr} {zs : List Value} (Ad : Ary Z h0 d .byte zs) (hz : zs.length.toInt32 = (34 : Int32)) (hzn : zs.length = 34) :
    Does l Z n0 ⟨"java/util/Arrays", "copyOfRange", "([BII)[B"⟩ jdk_65_method_132_code 3 (some (.array .byte)) [] { frames := 2, cells := 1, slots := 20, locals := 56 } #[(.ref d), (.int 0), (.int 20)] h0 (fun v h => ∃ b, v = some (.ref b) ∧ h0.size ≤ b ∧ n0 ≤ b ∧ Ary Z h b .byte (zs.take 20) ∧ Keep h0 h []) := by
  refine Does.start (plainFor_of_name pn_7) ?_
  intro p e s m below meth c T X
  replace X : Sd _ _ _ _ _ "java/util/Arrays" "copyOfRange" _ _ _ _ _ _ _ _ _ _ _ _ _ _ _ _ := X
  refine Wp.cast (g' := mkF m 0 #[.val (.ref d), .val (.int 0), .val (.int 20)] []) (by first | (simp [entryFrame, mkF, argsToLocals, Value.category, maxLocals]; done) | rfl) ?_
  refine w_iloadN X k65_132_0 rfl ?_
  refine w_ifne X k65_132_1 (fun hc => absurd rfl hc) (fun _ => ?_)
  refine w_iloadN X k65_132_4 rfl ?_
  refine w_aloadN X k65_132_5 rfl (rfl) ?_
  refine w_arrlen X (34 : Int32) k65_132_6 Ad hz ?_
  refine w_icmpeq X k65_132_7 (fun hc => absurd hc (by decide)) (fun _ => ?_)
  refine w_aloadN X k65_132_10 rfl (rfl) ?_
  refine w_iloadN X k65_132_11 rfl ?_
  refine w_iloadN X k65_132_12 rfl ?_
  refine w_callS X k65_132_13 (wd_277 hw) (wd_278 hw) (wd_138 hw) (wd_279 hw) (by decide) (argsL := [(.ref d), (.int 0), (.int 20)]) (S := []) (m_tcb_20 hw Ad hz hzn) pd_23 rfl rfl rfl (by decide) (leR rfl) (by decide) (by decide) (fun T h1 v1 L1 X q1 => ?_)
  obtain ⟨t1, rfl, r1⟩ := q1
  show Wp _ _ _ _ (T.setTop (mkF _ _ _ [(.ref t1)]))
  exact w_retR X rfl (rfl) rfl k65_132_16 ⟨t1, rfl, r1⟩ (by decide) (by decide)
theorem m_ti_20 (hw : own_hw a0 Z) {h0 : Heap} {zc : Int32} {fm : Value} {a b d : Addr} {zs : List Value} (hS : own_S Z zc fm) (ga : n0 ≤ a) (Ea : Exa Z h0 a "java/lang/String") (Va : Fld Z h0 a "java/lang/String" "value" "[B" .null) (Ca : Fld Z h0 a "java/lang/String" "coder" "B" (.int 0)) (Bd : Bld Z h0 b d (20 : Int32) zs) (hz : zs.length.toInt32 = (34 : Int32)) (hzn : zs.length = 34) :
    Does l Z n0 ⟨"java/lang/String", "<init>", "(Ljava/lang/AbstractStringBuilder;Ljava/lang/Void;)V"⟩ jdk_42_method_150_code 5 none [] { frames := 3, cells := 1, slots := 20, locals := 71 } #[(.ref a), (.ref b), .null] h0 (fun v h => v = none ∧ Keep h0 h [a] ∧ ∃ t, h0.size ≤ t ∧ n0 ≤ t ∧ Lat Z h a t (0 : Int32) (zs.take 20)) := by
  refine Does.start (plainFor_of_name pn_0) ?_
  obtain ⟨S_zc, hzc, S_fm, hfm⟩ := id hS
  intro p e s m below meth c T X
  replace X : Sd _ _ _ _ _ "java/lang/String" "<init>" _ _ _ _ _ _ _ _ _ _ _ _ _ _ _ _ := X
  refine Wp.cast (g' := mkF m 0 #[.val (.ref a), .val (.ref b), .val .null, .unset, .unset] []) (by first | (simp [entryFrame, mkF, argsToLocals, Value.category, maxLocals]; done) | rfl) ?_
  have nda : d ≠ a := Ne.symm (own_ane Ea (wd_8 hw) Bd.2.2.2.2)
  refine w_aloadN X k42_150_0 rfl (rfl) ?_
  refine w_initO X k42_150_1 (wd_18 hw) (wd_19 hw) (wd_20 hw) rfl (by decide) (leR rfl) (fun T X => ?_)
  refine w_aloadN X k42_150_4 rfl (rfl) ?_
  refine w_callV X k42_150_5 (wd_118 hw) (wd_119 hw) (nfs X.hZ (wd_121 hw)) (wd_121 hw) (wd_120 hw) (wd_48 hw) (wd_122 hw) (by decide) Bd.1 (argsL := []) (S := []) (m_gv hw Bd.2.1) pd_21 rfl rfl rfl (by decide) (leR rfl) (by decide) (by decide) (fun T h1 v1 L1 X q1 => ?_)
  obtain ⟨rfl, rfl⟩ := q1
  show Wp _ _ _ _ (T.setTop (mkF _ _ _ [(.ref d)]))
  refine w_astoreN X #[.val (.ref a), .val (.ref b), .val .null, .val (.ref d), .unset] k42_150_8 (rfl) rfl ?_
  refine w_aloadN X k42_150_9 rfl (rfl) ?_
  refine w_callV X k42_150_10 (wd_123 hw) (wd_124 hw) (own_nf (args := #[]) (mvT X.hZ (wd_121 hw)) rfl) (wd_126 hw) (wd_127 hw) (wd_40 hw) (wd_128 hw) (by decide) Bd.1 (argsL := []) (S := []) (m_bl hw Bd.1 Bd.2.2.2.1) pd_18 rfl rfl rfl (by decide) (leR rfl) (by decide) (by decide) (fun T h2 v2 L2 X q2 => ?_)
  obtain ⟨rfl, rfl⟩ := q2
  show Wp _ _ _ _ (T.setTop (mkF _ _ _ [(.int 20)]))
  refine w_istore X #[.val (.ref a), .val (.ref b), .val .null, .val (.ref d), .val (.int 20)] k42_150_13 rfl ?_
  refine w_aloadN X k42_150_15 rfl (rfl) ?_
  refine w_callV X k42_150_16 (wd_131 hw) (wd_132 hw) (nfs X.hZ (wd_134 hw)) (wd_134 hw) (wd_133 hw) (wd_48 hw) (wd_135 hw) (by decide) Bd.1 (argsL := []) (S := []) (m_ila hw hS Bd.2.2.1) pd_22 rfl rfl rfl (by decide) (leR rfl) (by decide) (by decide) (fun T h3 v3 L3 X q3 => ?_)
  obtain ⟨rfl, rfl⟩ := q3
  show Wp _ _ _ _ (T.setTop (mkF _ _ _ [(.int 1)]))
  refine w_ifeq X k42_150_19 (fun hc => absurd hc (by decide)) (fun _ => ?_)
  refine w_aloadN X k42_150_22 rfl (rfl) ?_
  refine w_iconst X (0 : Int32) k42_150_23 rfl ?_
  refine w_putFN X k42_150_24 (wd_28 hw) Via.refl Ca Ea (Or.inr ⟨(wd_24 hw), rfl, rfl⟩) (wd_8 hw) (ty := .byte) (by decide) (.int 0) rfl (by decide) ga (fun T h4 X W4 => ?_)
  have f1 := Ca.same W4
  have K2 : Keep h0 h4 [a] := (Keep.refl h0 [a]).wr W4 (Or.inl (List.mem_of_getElem? (i := 0) rfl))
  refine w_aloadN X k42_150_27 rfl (rfl) ?_
  refine w_aloadN X k42_150_28 rfl (rfl) ?_
  refine w_iconst X (0 : Int32) k42_150_29 rfl ?_
  refine w_iload X k42_150_30 rfl ?_
  have f3 := (Bd.2.2.2.2.other W4 nda)
  refine w_callS X k42_150_32 (wd_136 hw) (wd_137 hw) (wd_138 hw) (wd_139 hw) (by decide) (argsL := [(.ref d), (.int 0), (.int 20)]) (S := [(.ref a)]) (m_tcr_20 hw f3 hz hzn) pd_23 rfl rfl rfl (by decide) (leR rfl) (by decide) (by decide) (fun T h5 v5 L5 X q5 => ?_)
  obtain ⟨t5, rfl, gt5, gn5, At5, Kc5⟩ := q5
  have K4 : Keep h0 h5 [a] := K2.trans Kc5 (fun x hx => nomatch hx)
  have sz_t5 : h0.size ≤ t5 := Nat.le_trans K2.1 gt5
  show Wp _ _ _ _ (T.setTop (mkF _ _ _ [(.ref t5), (.ref a)]))
  have f5 := ((Ea.wr W4).keep Kc5)
  have f6 := ((Va.other W4 (Or.inr (slot_ne (Or.inr (wd_23 hw)) (Or.inr (wd_24 hw)) (by decide) (t := (.array .byte)) (t' := .byte) (by decide) (by decide)))).keep Kc5 (List.not_mem_nil))
  refine w_putF X k42_150_35 (host := "") (Or.inl (wd_27 hw)) Via.refl f6 f5 (Or.inr ⟨(wd_23 hw), rfl, rfl⟩) (wd_8 hw) (ty := (.array .byte)) (by decide) rfl rfl ga (fun T h6 X W6 => ?_)
  have f7 := f6.same W6
  have K8 : Keep h0 h6 [a] := K4.wr W6 (Or.inl (List.mem_of_getElem? (i := 0) rfl))
  refine w_goto X k42_150_38 ?_
  have f9 := (f5.wr W6)
  have f10 := ((f1.keep Kc5 (List.not_mem_nil)).other W6 (Or.inr (slot_ne (Or.inr (wd_24 hw)) (Or.inr (wd_23 hw)) (by decide) (t := .byte) (t' := (.array .byte)) (by decide) (by decide))))
  have f11 := (At5.other W6 (Ne.symm (nel (ltl (ltl Ea.lt (Nat.le_of_eq W4.size.symm)) gt5))))
  exact w_retV X k42_150_97 ⟨rfl, K8, _, sz_t5, gn5, ⟨f9, f10, f7, f11⟩⟩ (by decide) (by decide)
theorem m_tj_20 (hw : own_hw a0 Z) {h0 : Heap} {zc : Int32} {fm : Value} {a b d : Addr} {zs : List Value} (hS : own_S Z zc fm) (ga : n0 ≤ a) (Ea : Exa Z h0 a "java/lang/String") (Va : Fld Z h0 a "java/lang/String" "value" "[B" .null) (Ca : Fld Z h0 a "java/lang/String" "coder" "B" (.int 0)) (Bd : Bld Z h0 b d (20 : Int32) zs) (hz : zs.length.toInt32 = (34 : Int32)) (hzn : zs.length = 34) :
    Does l Z n0 ⟨"java/lang/String", "<init>", "(Ljava/lang/StringBuilder;)V"⟩ jdk_42_method_53_code 2 none [] { frames := 4, cells := 1, slots := 20, locals := 87 } #[(.ref a), (.ref b)] h0 (fun v h => v = none ∧ Keep h0 h [a] ∧ ∃ t, h0.size ≤ t ∧ n0 ≤ t ∧ Lat Z h a t (0 : Int32) (zs.take 20)) := by
  refine Does.start (plainFor_of_name pn_0) ?_
  obtain ⟨S_zc, hzc, S_fm, hfm⟩ := id hS
  intro p e s m below meth c T X
  replace X : Sd _ _ _ _ _ "java/lang/String" "<init>" _ _ _ _ _ _ _ _ _ _ _ _ _ _ _ _ := X
  refine Wp.cast (g' := mkF m 0 #[.val (.ref a), .val (.ref b)] []) (by first | (simp [entryFrame, mkF, argsToLocals, Value.category, maxLocals]; done) | rfl) ?_
  refine w_aloadN X k42_53_0 rfl (rfl) ?_
  refine w_aloadN X k42_53_1 rfl (rfl) ?_
  refine w_aconstNull X k42_53_2 ?_
  refine w_callI X k42_53_3 rfl (wd_115 hw) (wd_116 hw) (wd_9 hw) (wd_117 hw) (by decide) (argsL := [(.ref b), .null]) (S := []) (m_ti_20 hw hS ga Ea Va Ca Bd hz hzn) pd_24 rfl rfl rfl (by decide) (leR rfl) (by decide) (by decide) (fun T h1 v1 L1 X q1 => ?_)
  obtain ⟨rfl, r1⟩ := q1
  show Wp _ _ _ _ (T.setTop (mkF _ _ _ []))
  exact w_retV X k42_53_6 ⟨rfl, r1⟩ (by decide) (by decide)
theorem m_ts_20 (hw : own_hw a0 Z) {h0 : Heap} {zc : Int32} {fm : Value} {b d : Addr} {zs : List Value} (hS : own_S Z zc fm) (Bd : Bld Z h0 b d (20 : Int32) zs) (hz : zs.length.toInt32 = (34 : Int32)) (hzn : zs.length = 34) :
    Does l Z n0 ⟨"java/lang/StringBuilder", "toString", "()Ljava/lang/String;"⟩ jdk_67_method_42_code 1 (some (.object "java/lang/String")) [] { frames := 5, cells := 2, slots := 24, locals := 101 } #[(.ref b)] h0 (fun v h => ∃ a t, v = some (.ref a) ∧ h0.size ≤ a ∧ n0 ≤ a ∧ h0.size ≤ t ∧ n0 ≤ t ∧ Lat Z h a t (0 : Int32) (zs.take 20) ∧ Keep h0 h []) := by
  refine Does.start (plainFor_of_name pn_5) ?_
  obtain ⟨S_zc, hzc, S_fm, hfm⟩ := id hS
  intro p e s m below meth c T X
  replace X : Sd _ _ _ _ _ "java/lang/StringBuilder" "toString" _ _ _ _ _ _ _ _ _ _ _ _ _ _ _ _ := X
  refine Wp.cast (g' := mkF m 0 #[.val (.ref b)] []) (by first | (simp [entryFrame, mkF, argsToLocals, Value.category, maxLocals]; done) | rfl) ?_
  refine w_new X k67_42_0 (wd_111 hw) (wd_8 hw) (wd_9 hw) (by decide) (by decide) (fun T h1 b1 g1 gn1 X E1 A1 D1 => ?_)
  have sz_b1 : h0.size ≤ b1 := Nat.le_trans (Keep.refl h0 []).1 (Nat.le_of_eq g1.symm)
  have K1 : Keep h0 h1 [] := (Keep.refl h0 []).ext E1
  refine w_dup X k67_42_3 rfl ?_
  refine w_aloadN X k67_42_4 rfl (rfl) ?_
  refine w_callI X k67_42_5 rfl (wd_112 hw) (wd_113 hw) (wd_9 hw) (wd_114 hw) (by decide) (argsL := [(.ref b)]) (S := [(.ref b1)]) (m_tj_20 hw hS gn1 A1 (show Fld Z h1 b1 "java/lang/String" "value" "[B" .null from D1 (Or.inr (wd_23 hw)) (ty := (.array .byte)) (by decide)) (show Fld Z h1 b1 "java/lang/String" "coder" "B" (.int 0) from D1 (Or.inr (wd_24 hw)) (ty := .byte) (by decide)) ⟨Bd.1.ext E1, Bd.2.1.ext E1, Bd.2.2.1.ext E1, Bd.2.2.2.1.ext E1, Bd.2.2.2.2.ext E1⟩ hz hzn) pd_25 rfl rfl rfl (by decide) (leR rfl) (by decide) (by decide) (fun T h2 v2 L2 X q2 => ?_)
  obtain ⟨rfl, Kc2, t2, gt2, gn2, Tx2⟩ := q2
  have K2 : Keep h0 h2 [] := K1.trans Kc2 (fun x hx => by cases List.mem_singleton.mp hx; exact (Or.inr sz_b1))
  have sz_t2 : h0.size ≤ t2 := Nat.le_trans K1.1 gt2
  show Wp _ _ _ _ (T.setTop (mkF _ _ _ [(.ref b1)]))
  exact w_retR X rfl (rfl) rfl k67_42_8 ⟨_, _, rfl, sz_b1, gn1, sz_t2, gn2, Tx2, K2⟩ (by decide) (by decide)
theorem m_tcl_21 (hw : own_hw a0 Z) {h0 : Heap}   :
    Does l Z n0 ⟨"java/util/Arrays", "checkLength", "(II)V"⟩ jdk_65_method_131_code 2 none [] { frames := 0, cells := 0, slots := 0, locals := 0 } #[(.int 0), (.int 21)] h0 (fun v h => v = none ∧ h0 = h) := by
  refine Does.start (plainFor_of_name pn_7) ?_
  intro p e s m below meth c T X
  replace X : Sd _ _ _ _ _ "java/util/Arrays" "checkLength" _ _ _ _ _ _ _ _ _ _ _ _ _ _ _ _ := X
  refine Wp.cast (g' := mkF m 0 #[.val (.int 0), .val (.int 21)] []) (by first | (simp [entryFrame, mkF, argsToLocals, Value.category, maxLocals]; done) | rfl) ?_
  refine w_iloadN X k65_131_0 rfl ?_
  refine w_iloadN X k65_131_1 rfl ?_
  refine w_icmpge X k65_131_2 (fun _ => ?_) (fun hc => absurd hc (by decide))
  exact w_retV X k65_131_37 ⟨rfl, rfl⟩ (by decide) (by decide)
theorem m_tcb_21 (hw : own_hw a0 Z) {h0 : Heap} {d : Addr} {zs : List Value} (Ad : Ary Z h0 d .byte zs) (hz : zs.length.toInt32 = (34 : Int32)) (hzn : zs.length = 34) :
    Does l Z n0 ⟨"java/util/Arrays", "copyOfRangeByte", "([BII)[B"⟩ jdk_65_method_133_code 5 (some (.array .byte)) [] { frames := 1, cells := 1, slots := 21, locals := 40 } #[(.ref d), (.int 0), (.int 21)] h0 (fun v h => ∃ b, v = some (.ref b) ∧ h0.size ≤ b ∧ n0 ≤ b ∧ Ary Z h b .byte (zs.take 21) ∧ Keep h0 h []) := by
  refine Does.start (plainFor_of_name pn_7) ?_
  intro p e s m below meth c T X
  replace X : Sd _ _ _ _ _ "java/util/Arrays" "copyOfRangeByte" _ _ _ _ _ _ _ _ _ _ _ _ _ _ _ _ := X
  refine Wp.cast (g' := mkF m 0 #[.val (.ref d), .val (.int 0), .val (.int 21), .unset, .unset] []) (by first | (simp [entryFrame, mkF, argsToLocals, Value.category, maxLocals]; done) | rfl) ?_
  refine w_iloadN X k65_133_0 rfl ?_
  refine w_iloadN X k65_133_1 rfl ?_
  refine w_callS X k65_133_2 (wd_280 hw) (wd_281 hw) (wd_138 hw) (wd_282 hw) (by decide) (argsL := [(.int 0), (.int 21)]) (S := []) (m_tcl_21 hw) pd_26 rfl rfl rfl (by decide) (leR rfl) (by decide) (by decide) (fun T h1 v1 L1 X q1 => ?_)
  obtain ⟨rfl, rfl⟩ := q1
  show Wp _ _ _ _ (T.setTop (mkF _ _ _ []))
  refine w_iloadN X k65_133_5 rfl ?_
  refine w_iloadN X k65_133_6 rfl ?_
  refine w_isub X k65_133_7 ?_
  refine w_istoreN X #[.val (.ref d), .val (.int 0), .val (.int 21), .val (.int 21), .unset] k65_133_8 rfl ?_
  refine w_iloadN X k65_133_9 rfl ?_
  refine w_newarrE X k65_133_10 (wd_22 hw) 21 21 "[B" rfl (by decide) (by decide) (by decide) (by decide) (by decide) (by decide) (fun T h2 b2 g2 gn2 X E2 A2 B2 => ?_)
  replace A2 : Ary Z h2 b2 .byte (List.replicate 21 (.int 0)) := A2
  have sz_b2 : h0.size ≤ b2 := Nat.le_trans (Keep.refl h0 []).1 (Nat.le_of_eq g2.symm)
  have K1 : Keep h0 h2 [] := (Keep.refl h0 []).ext E2
  refine w_astore X #[.val (.ref d), .val (.int 0), .val (.int 21), .val (.int 21), .val (.ref b2)] k65_133_12 (rfl) rfl ?_
  refine w_aloadN X k65_133_14 rfl (rfl) ?_
  refine w_iloadN X k65_133_15 rfl ?_
  refine w_aload X k65_133_16 rfl (rfl) ?_
  refine w_iconst X (0 : Int32) k65_133_18 rfl ?_
  refine w_aloadN X k65_133_19 rfl (rfl) ?_
  have f2 := (Ad.ext E2)
  refine w_arrlen X (34 : Int32) k65_133_20 f2 hz ?_
  refine w_iloadN X k65_133_21 rfl ?_
  refine w_isub X k65_133_22 ?_
  refine w_iloadN X k65_133_23 rfl ?_
  refine w_callS X k65_133_24 (wd_273 hw) (wd_274 hw) (wd_266 hw) (wd_275 hw) (by decide) (argsL := [(.int 34), (.int 21)]) (S := [(.int 0), (.ref b2), (.int 0), (.ref d)]) (m_min hw (r := (21 : Int32)) (by decide)) pd_12 rfl rfl rfl (by decide) (leR rfl) (by decide) (by decide) (fun T h3 v3 L3 X q3 => ?_)
  obtain ⟨rfl, rfl⟩ := q3
  show Wp _ _ _ _ (T.setTop (mkF _ _ _ [(.int 21), (.int 0), (.ref b2), (.int 0), (.ref d)]))
  refine w_cpB X k65_133_27 (wd_276 hw) (wd_104 hw) (wd_102 hw) (wd_103 hw) rfl (zs.take 21) f2 A2 gn2 (by decide) (by decide) (by rw [hzn]; decide) rfl (own_takeP (by rw [hzn]; decide)) rfl (by decide) (leR rfl) (fun T h4 L4 X Kc4 A4 => ?_)
  have K3 : Keep h0 h4 [] := K1.trans Kc4 (fun x hx => by cases List.mem_singleton.mp hx; exact (Or.inr sz_b2))
  refine w_aload X k65_133_30 rfl (rfl) ?_
  exact w_retR X rfl (rfl) rfl k65_133_32 ⟨_, rfl, sz_b2, gn2, A4, K3⟩ (by decide) (by decide)
theorem m_tcr_21 (hw : own_hw a0 Z) {h0 : Heap} {d : Addr} {zs : List Value} (Ad : Ary Z h0 d .byte zs) (hz : zs.length.toInt32 = (34 : Int32)) (hzn : zs.length = 34) :
    Does l Z n0 ⟨"java/util/Arrays", "copyOfRange", "([BII)[B"⟩ jdk_65_method_132_code 3 (some (.array .byte)) [] { frames := 2, cells := 1, slots := 21, locals := 56 } #[(.ref d), (.int 0), (.int 21)] h0 (fun v h => ∃ b, v = some (.ref b) ∧ h0.size ≤ b ∧ n0 ≤ b ∧ Ary Z h b .byte (zs.take 21) ∧ Keep h0 h []) := by
  refine Does.start (plainFor_of_name pn_7) ?_
  intro p e s m below meth c T X
  replace X : Sd _ _ _ _ _ "java/util/Arrays" "copyOfRange" _ _ _ _ _ _ _ _ _ _ _ _ _ _ _ _ := X
  refine Wp.cast (g' := mkF m 0 #[.val (.ref d), .val (.int 0), .val (.int 21)] []) (by first | (simp [entryFrame, mkF, argsToLocals, Value.category, maxLocals]; done) | rfl) ?_
  refine w_iloadN X k65_132_0 rfl ?_
  refine w_ifne X k65_132_1 (fun hc => absurd rfl hc) (fun _ => ?_)
  refine w_iloadN X k65_132_4 rfl ?_
  refine w_aloadN X k65_132_5 rfl (rfl) ?_
  refine w_arrlen X (34 : Int32) k65_132_6 Ad hz ?_
  refine w_icmpeq X k65_132_7 (fun hc => absurd hc (by decide)) (fun _ => ?_)
  refine w_aloadN X k65_132_10 rfl (rfl) ?_
  refine w_iloadN X k65_132_11 rfl ?_
  refine w_iloadN X k65_132_12 rfl ?_
  refine w_callS X k65_132_13 (wd_277 hw) (wd_278 hw) (wd_138 hw) (wd_279 hw) (by decide) (argsL := [(.ref d), (.int 0), (.int 21)]) (S := []) (m_tcb_21 hw Ad hz hzn) pd_23 rfl rfl rfl (by decide) (leR rfl) (by decide) (by decide) (fun T h1 v1 L1 X q1 => ?_)
  obtain ⟨t1, rfl, r1⟩ := q1
  show Wp _ _ _ _ (T.setTop (mkF _ _ _ [(.ref t1)]))
  exact w_retR X rfl (rfl) rfl k65_132_16 ⟨t1, rfl, r1⟩ (by decide) (by decide)
theorem m_ti_21 (hw : own_hw a0 Z) {h0 : Heap} {zc : Int32} {fm : Value} {a b d : Addr} {zs : List Value} (hS : own_S Z zc fm) (ga : n0 ≤ a) (Ea : Exa Z h0 a "java/lang/String") (Va : Fld Z h0 a "java/lang/String" "value" "[B" .null) (Ca : Fld Z h0 a "java/lang/String" "coder" "B" (.int 0)) (Bd : Bld Z h0 b d (21 : Int32) zs) (hz : zs.length.toInt32 = (34 : Int32)) (hzn : zs.length = 34) :
    Does l Z n0 ⟨"java/lang/String", "<init>", "(Ljava/lang/AbstractStringBuilder;Ljava/lang/Void;)V"⟩ jdk_42_method_150_code 5 none [] { frames := 3, cells := 1, slots := 21, locals := 71 } #[(.ref a), (.ref b), .null] h0 (fun v h => v = none ∧ Keep h0 h [a] ∧ ∃ t, h0.size ≤ t ∧ n0 ≤ t ∧ Lat Z h a t (0 : Int32) (zs.take 21)) := by
  refine Does.start (plainFor_of_name pn_0) ?_
  obtain ⟨S_zc, hzc, S_fm, hfm⟩ := id hS
  intro p e s m below meth c T X
  replace X : Sd _ _ _ _ _ "java/lang/String" "<init>" _ _ _ _ _ _ _ _ _ _ _ _ _ _ _ _ := X
  refine Wp.cast (g' := mkF m 0 #[.val (.ref a), .val (.ref b), .val .null, .unset, .unset] []) (by first | (simp [entryFrame, mkF, argsToLocals, Value.category, maxLocals]; done) | rfl) ?_
  have nda : d ≠ a := Ne.symm (own_ane Ea (wd_8 hw) Bd.2.2.2.2)
  refine w_aloadN X k42_150_0 rfl (rfl) ?_
  refine w_initO X k42_150_1 (wd_18 hw) (wd_19 hw) (wd_20 hw) rfl (by decide) (leR rfl) (fun T X => ?_)
  refine w_aloadN X k42_150_4 rfl (rfl) ?_
  refine w_callV X k42_150_5 (wd_118 hw) (wd_119 hw) (nfs X.hZ (wd_121 hw)) (wd_121 hw) (wd_120 hw) (wd_48 hw) (wd_122 hw) (by decide) Bd.1 (argsL := []) (S := []) (m_gv hw Bd.2.1) pd_21 rfl rfl rfl (by decide) (leR rfl) (by decide) (by decide) (fun T h1 v1 L1 X q1 => ?_)
  obtain ⟨rfl, rfl⟩ := q1
  show Wp _ _ _ _ (T.setTop (mkF _ _ _ [(.ref d)]))
  refine w_astoreN X #[.val (.ref a), .val (.ref b), .val .null, .val (.ref d), .unset] k42_150_8 (rfl) rfl ?_
  refine w_aloadN X k42_150_9 rfl (rfl) ?_
  refine w_callV X k42_150_10 (wd_123 hw) (wd_124 hw) (own_nf (args := #[]) (mvT X.hZ (wd_121 hw)) rfl) (wd_126 hw) (wd_127 hw) (wd_40 hw) (wd_128 hw) (by decide) Bd.1 (argsL := []) (S := []) (m_bl hw Bd.1 Bd.2.2.2.1) pd_18 rfl rfl rfl (by decide) (leR rfl) (by decide) (by decide) (fun T h2 v2 L2 X q2 => ?_)
  obtain ⟨rfl, rfl⟩ := q2
  show Wp _ _ _ _ (T.setTop (mkF _ _ _ [(.int 21)]))
  refine w_istore X #[.val (.ref a), .val (.ref b), .val .null, .val (.ref d), .val (.int 21)] k42_150_13 rfl ?_
  refine w_aloadN X k42_150_15 rfl (rfl) ?_
  refine w_callV X k42_150_16 (wd_131 hw) (wd_132 hw) (nfs X.hZ (wd_134 hw)) (wd_134 hw) (wd_133 hw) (wd_48 hw) (wd_135 hw) (by decide) Bd.1 (argsL := []) (S := []) (m_ila hw hS Bd.2.2.1) pd_22 rfl rfl rfl (by decide) (leR rfl) (by decide) (by decide) (fun T h3 v3 L3 X q3 => ?_)
  obtain ⟨rfl, rfl⟩ := q3
  show Wp _ _ _ _ (T.setTop (mkF _ _ _ [(.int 1)]))
  refine w_ifeq X k42_150_19 (fun hc => absurd hc (by decide)) (fun _ => ?_)
  refine w_aloadN X k42_150_22 rfl (rfl) ?_
  refine w_iconst X (0 : Int32) k42_150_23 rfl ?_
  refine w_putFN X k42_150_24 (wd_28 hw) Via.refl Ca Ea (Or.inr ⟨(wd_24 hw), rfl, rfl⟩) (wd_8 hw) (ty := .byte) (by decide) (.int 0) rfl (by decide) ga (fun T h4 X W4 => ?_)
  have f1 := Ca.same W4
  have K2 : Keep h0 h4 [a] := (Keep.refl h0 [a]).wr W4 (Or.inl (List.mem_of_getElem? (i := 0) rfl))
  refine w_aloadN X k42_150_27 rfl (rfl) ?_
  refine w_aloadN X k42_150_28 rfl (rfl) ?_
  refine w_iconst X (0 : Int32) k42_150_29 rfl ?_
  refine w_iload X k42_150_30 rfl ?_
  have f3 := (Bd.2.2.2.2.other W4 nda)
  refine w_callS X k42_150_32 (wd_136 hw) (wd_137 hw) (wd_138 hw) (wd_139 hw) (by decide) (argsL := [(.ref d), (.int 0), (.int 21)]) (S := [(.ref a)]) (m_tcr_21 hw f3 hz hzn) pd_23 rfl rfl rfl (by decide) (leR rfl) (by decide) (by decide) (fun T h5 v5 L5 X q5 => ?_)
  obtain ⟨t5, rfl, gt5, gn5, At5, Kc5⟩ := q5
  have K4 : Keep h0 h5 [a] := K2.trans Kc5 (fun x hx => nomatch hx)
  have sz_t5 : h0.size ≤ t5 := Nat.le_trans K2.1 gt5
  show Wp _ _ _ _ (T.setTop (mkF _ _ _ [(.ref t5), (.ref a)]))
  have f5 := ((Ea.wr W4).keep Kc5)
  have f6 := ((Va.other W4 (Or.inr (slot_ne (Or.inr (wd_23 hw)) (Or.inr (wd_24 hw)) (by decide) (t := (.array .byte)) (t' := .byte) (by decide) (by decide)))).keep Kc5 (List.not_mem_nil))
  refine w_putF X k42_150_35 (host := "") (Or.inl (wd_27 hw)) Via.refl f6 f5 (Or.inr ⟨(wd_23 hw), rfl, rfl⟩) (wd_8 hw) (ty := (.array .byte)) (by decide) rfl rfl ga (fun T h6 X W6 => ?_)
  have f7 := f6.same W6
  have K8 : Keep h0 h6 [a] := K4.wr W6 (Or.inl (List.mem_of_getElem? (i := 0) rfl))
  refine w_goto X k42_150_38 ?_
  have f9 := (f5.wr W6)
  have f10 := ((f1.keep Kc5 (List.not_mem_nil)).other W6 (Or.inr (slot_ne (Or.inr (wd_24 hw)) (Or.inr (wd_23 hw)) (by decide) (t := .byte) (t' := (.array .byte)) (by decide) (by decide))))
  have f11 := (At5.other W6 (Ne.symm (nel (ltl (ltl Ea.lt (Nat.le_of_eq W4.size.symm)) gt5))))
  exact w_retV X k42_150_97 ⟨rfl, K8, _, sz_t5, gn5, ⟨f9, f10, f7, f11⟩⟩ (by decide) (by decide)
theorem m_tj_21 (hw : own_hw a0 Z) {h0 : Heap} {zc : Int32} {fm : Value} {a b d : Addr} {zs : List Value} (hS : own_S Z zc fm) (ga : n0 ≤ a) (Ea : Exa Z h0 a "java/lang/String") (Va : Fld Z h0 a "java/lang/String" "value" "[B" .null) (Ca : Fld Z h0 a "java/lang/String" "coder" "B" (.int 0)) (Bd : Bld Z h0 b d (21 : Int32) zs) (hz : zs.length.toInt32 = (34 : Int32)) (hzn : zs.length = 34) :
    Does l Z n0 ⟨"java/lang/String", "<init>", "(Ljava/lang/StringBuilder;)V"⟩ jdk_42_method_53_code 2 none [] { frames := 4, cells := 1, slots := 21, locals := 87 } #[(.ref a), (.ref b)] h0 (fun v h => v = none ∧ Keep h0 h [a] ∧ ∃ t, h0.size ≤ t ∧ n0 ≤ t ∧ Lat Z h a t (0 : Int32) (zs.take 21)) := by
  refine Does.start (plainFor_of_name pn_0) ?_
  obtain ⟨S_zc, hzc, S_fm, hfm⟩ := id hS
  intro p e s m below meth c T X
  replace X : Sd _ _ _ _ _ "java/lang/String" "<init>" _ _ _ _ _ _ _ _ _ _ _ _ _ _ _ _ := X
  refine Wp.cast (g' := mkF m 0 #[.val (.ref a), .val (.ref b)] []) (by first | (simp [entryFrame, mkF, argsToLocals, Value.category, maxLocals]; done) | rfl) ?_
  refine w_aloadN X k42_53_0 rfl (rfl) ?_
  refine w_aloadN X k42_53_1 rfl (rfl) ?_
  refine w_aconstNull X k42_53_2 ?_
  refine w_callI X k42_53_3 rfl (wd_115 hw) (wd_116 hw) (wd_9 hw) (wd_117 hw) (by decide) (argsL := [(.ref b), .null]) (S := []) (m_ti_21 hw hS ga Ea Va Ca Bd hz hzn) pd_24 rfl rfl rfl (by decide) (leR rfl) (by decide) (by decide) (fun T h1 v1 L1 X q1 => ?_)
  obtain ⟨rfl, r1⟩ := q1
  show Wp _ _ _ _ (T.setTop (mkF _ _ _ []))
  exact w_retV X k42_53_6 ⟨rfl, r1⟩ (by decide) (by decide)
theorem m_ts_21 (hw : own_hw a0 Z) {h0 : Heap} {zc : Int32} {fm : Value} {b d : Addr} {zs : List Value} (hS : own_S Z zc fm) (Bd : Bld Z h0 b d (21 : Int32) zs) (hz : zs.length.toInt32 = (34 : Int32)) (hzn : zs.length = 34) :
    Does l Z n0 ⟨"java/lang/StringBuilder", "toString", "()Ljava/lang/String;"⟩ jdk_67_method_42_code 1 (some (.object "java/lang/String")) [] { frames := 5, cells := 2, slots := 25, locals := 101 } #[(.ref b)] h0 (fun v h => ∃ a t, v = some (.ref a) ∧ h0.size ≤ a ∧ n0 ≤ a ∧ h0.size ≤ t ∧ n0 ≤ t ∧ Lat Z h a t (0 : Int32) (zs.take 21) ∧ Keep h0 h []) := by
  refine Does.start (plainFor_of_name pn_5) ?_
  obtain ⟨S_zc, hzc, S_fm, hfm⟩ := id hS
  intro p e s m below meth c T X
  replace X : Sd _ _ _ _ _ "java/lang/StringBuilder" "toString" _ _ _ _ _ _ _ _ _ _ _ _ _ _ _ _ := X
  refine Wp.cast (g' := mkF m 0 #[.val (.ref b)] []) (by first | (simp [entryFrame, mkF, argsToLocals, Value.category, maxLocals]; done) | rfl) ?_
  refine w_new X k67_42_0 (wd_111 hw) (wd_8 hw) (wd_9 hw) (by decide) (by decide) (fun T h1 b1 g1 gn1 X E1 A1 D1 => ?_)
  have sz_b1 : h0.size ≤ b1 := Nat.le_trans (Keep.refl h0 []).1 (Nat.le_of_eq g1.symm)
  have K1 : Keep h0 h1 [] := (Keep.refl h0 []).ext E1
  refine w_dup X k67_42_3 rfl ?_
  refine w_aloadN X k67_42_4 rfl (rfl) ?_
  refine w_callI X k67_42_5 rfl (wd_112 hw) (wd_113 hw) (wd_9 hw) (wd_114 hw) (by decide) (argsL := [(.ref b)]) (S := [(.ref b1)]) (m_tj_21 hw hS gn1 A1 (show Fld Z h1 b1 "java/lang/String" "value" "[B" .null from D1 (Or.inr (wd_23 hw)) (ty := (.array .byte)) (by decide)) (show Fld Z h1 b1 "java/lang/String" "coder" "B" (.int 0) from D1 (Or.inr (wd_24 hw)) (ty := .byte) (by decide)) ⟨Bd.1.ext E1, Bd.2.1.ext E1, Bd.2.2.1.ext E1, Bd.2.2.2.1.ext E1, Bd.2.2.2.2.ext E1⟩ hz hzn) pd_25 rfl rfl rfl (by decide) (leR rfl) (by decide) (by decide) (fun T h2 v2 L2 X q2 => ?_)
  obtain ⟨rfl, Kc2, t2, gt2, gn2, Tx2⟩ := q2
  have K2 : Keep h0 h2 [] := K1.trans Kc2 (fun x hx => by cases List.mem_singleton.mp hx; exact (Or.inr sz_b1))
  have sz_t2 : h0.size ≤ t2 := Nat.le_trans K1.1 gt2
  show Wp _ _ _ _ (T.setTop (mkF _ _ _ [(.ref b1)]))
  exact w_retR X rfl (rfl) rfl k67_42_8 ⟨_, _, rfl, sz_b1, gn1, sz_t2, gn2, Tx2, K2⟩ (by decide) (by decide)
theorem m_tcl_22 (hw : own_hw a0 Z) {h0 : Heap}   :
    Does l Z n0 ⟨"java/util/Arrays", "checkLength", "(II)V"⟩ jdk_65_method_131_code 2 none [] { frames := 0, cells := 0, slots := 0, locals := 0 } #[(.int 0), (.int 22)] h0 (fun v h => v = none ∧ h0 = h) := by
  refine Does.start (plainFor_of_name pn_7) ?_
  intro p e s m below meth c T X
  replace X : Sd _ _ _ _ _ "java/util/Arrays" "checkLength" _ _ _ _ _ _ _ _ _ _ _ _ _ _ _ _ := X
  refine Wp.cast (g' := mkF m 0 #[.val (.int 0), .val (.int 22)] []) (by first | (simp [entryFrame, mkF, argsToLocals, Value.category, maxLocals]; done) | rfl) ?_
  refine w_iloadN X k65_131_0 rfl ?_
  refine w_iloadN X k65_131_1 rfl ?_
  refine w_icmpge X k65_131_2 (fun _ => ?_) (fun hc => absurd hc (by decide))
  exact w_retV X k65_131_37 ⟨rfl, rfl⟩ (by decide) (by decide)
theorem m_tcb_22 (hw : own_hw a0 Z) {h0 : Heap} {d : Addr} {zs : List Value} (Ad : Ary Z h0 d .byte zs) (hz : zs.length.toInt32 = (34 : Int32)) (hzn : zs.length = 34) :
    Does l Z n0 ⟨"java/util/Arrays", "copyOfRangeByte", "([BII)[B"⟩ jdk_65_method_133_code 5 (some (.array .byte)) [] { frames := 1, cells := 1, slots := 22, locals := 40 } #[(.ref d), (.int 0), (.int 22)] h0 (fun v h => ∃ b, v = some (.ref b) ∧ h0.size ≤ b ∧ n0 ≤ b ∧ Ary Z h b .byte (zs.take 22) ∧ Keep h0 h []) := by
  refine Does.start (plainFor_of_name pn_7) ?_
  intro p e s m below meth c T X
  replace X : Sd _ _ _ _ _ "java/util/Arrays" "copyOfRangeByte" _ _ _ _ _ _ _ _ _ _ _ _ _ _ _ _ := X
  refine Wp.cast (g' := mkF m 0 #[.val (.ref d), .val (.int 0), .val (.int 22), .unset, .unset] []) (by first | (simp [entryFrame, mkF, argsToLocals, Value.category, maxLocals]; done) | rfl) ?_
  refine w_iloadN X k65_133_0 rfl ?_
  refine w_iloadN X k65_133_1 rfl ?_
  refine w_callS X k65_133_2 (wd_280 hw) (wd_281 hw) (wd_138 hw) (wd_282 hw) (by decide) (argsL := [(.int 0), (.int 22)]) (S := []) (m_tcl_22 hw) pd_26 rfl rfl rfl (by decide) (leR rfl) (by decide) (by decide) (fun T h1 v1 L1 X q1 => ?_)
  obtain ⟨rfl, rfl⟩ := q1
  show Wp _ _ _ _ (T.setTop (mkF _ _ _ []))
  refine w_iloadN X k65_133_5 rfl ?_
  refine w_iloadN X k65_133_6 rfl ?_
  refine w_isub X k65_133_7 ?_
  refine w_istoreN X #[.val (.ref d), .val (.int 0), .val (.int 22), .val (.int 22), .unset] k65_133_8 rfl ?_
  refine w_iloadN X k65_133_9 rfl ?_
  refine w_newarrE X k65_133_10 (wd_22 hw) 22 22 "[B" rfl (by decide) (by decide) (by decide) (by decide) (by decide) (by decide) (fun T h2 b2 g2 gn2 X E2 A2 B2 => ?_)
  replace A2 : Ary Z h2 b2 .byte (List.replicate 22 (.int 0)) := A2
  have sz_b2 : h0.size ≤ b2 := Nat.le_trans (Keep.refl h0 []).1 (Nat.le_of_eq g2.symm)
  have K1 : Keep h0 h2 [] := (Keep.refl h0 []).ext E2
  refine w_astore X #[.val (.ref d), .val (.int 0), .val (.int 22), .val (.int 22), .val (.ref b2)] k65_133_12 (rfl) rfl ?_
  refine w_aloadN X k65_133_14 rfl (rfl) ?_
  refine w_iloadN X k65_133_15 rfl ?_
  refine w_aload X k65_133_16 rfl (rfl) ?_
  refine w_iconst X (0 : Int32) k65_133_18 rfl ?_
  refine w_aloadN X k65_133_19 rfl (rfl) ?_
  have f2 := (Ad.ext E2)
  refine w_arrlen X (34 : Int32) k65_133_20 f2 hz ?_
  refine w_iloadN X k65_133_21 rfl ?_
  refine w_isub X k65_133_22 ?_
  refine w_iloadN X k65_133_23 rfl ?_
  refine w_callS X k65_133_24 (wd_273 hw) (wd_274 hw) (wd_266 hw) (wd_275 hw) (by decide) (argsL := [(.int 34), (.int 22)]) (S := [(.int 0), (.ref b2), (.int 0), (.ref d)]) (m_min hw (r := (22 : Int32)) (by decide)) pd_12 rfl rfl rfl (by decide) (leR rfl) (by decide) (by decide) (fun T h3 v3 L3 X q3 => ?_)
  obtain ⟨rfl, rfl⟩ := q3
  show Wp _ _ _ _ (T.setTop (mkF _ _ _ [(.int 22), (.int 0), (.ref b2), (.int 0), (.ref d)]))
  refine w_cpB X k65_133_27 (wd_276 hw) (wd_104 hw) (wd_102 hw) (wd_103 hw) rfl (zs.take 22) f2 A2 gn2 (by decide) (by decide) (by rw [hzn]; decide) rfl (own_takeP (by rw [hzn]; decide)) rfl (by decide) (leR rfl) (fun T h4 L4 X Kc4 A4 => ?_)
  have K3 : Keep h0 h4 [] := K1.trans Kc4 (fun x hx => by cases List.mem_singleton.mp hx; exact (Or.inr sz_b2))
  refine w_aload X k65_133_30 rfl (rfl) ?_
  exact w_retR X rfl (rfl) rfl k65_133_32 ⟨_, rfl, sz_b2, gn2, A4, K3⟩ (by decide) (by decide)
theorem m_tcr_22 (hw : own_hw a0 Z) {h0 : Heap} {d : Addr} {zs : List Value} (Ad : Ary Z h0 d .byte zs) (hz : zs.length.toInt32 = (34 : Int32)) (hzn : zs.length = 34) :
    Does l Z n0 ⟨"java/util/Arrays", "copyOfRange", "([BII)[B"⟩ jdk_65_method_132_code 3 (some (.array .byte)) [] { frames := 2, cells := 1, slots := 22, locals := 56 } #[(.ref d), (.int 0), (.int 22)] h0 (fun v h => ∃ b, v = some (.ref b) ∧ h0.size ≤ b ∧ n0 ≤ b ∧ Ary Z h b .byte (zs.take 22) ∧ Keep h0 h []) := by
  refine Does.start (plainFor_of_name pn_7) ?_
  intro p e s m below meth c T X
  replace X : Sd _ _ _ _ _ "java/util/Arrays" "copyOfRange" _ _ _ _ _ _ _ _ _ _ _ _ _ _ _ _ := X
  refine Wp.cast (g' := mkF m 0 #[.val (.ref d), .val (.int 0), .val (.int 22)] []) (by first | (simp [entryFrame, mkF, argsToLocals, Value.category, maxLocals]; done) | rfl) ?_
  refine w_iloadN X k65_132_0 rfl ?_
  refine w_ifne X k65_132_1 (fun hc => absurd rfl hc) (fun _ => ?_)
  refine w_iloadN X k65_132_4 rfl ?_
  refine w_aloadN X k65_132_5 rfl (rfl) ?_
  refine w_arrlen X (34 : Int32) k65_132_6 Ad hz ?_
  refine w_icmpeq X k65_132_7 (fun hc => absurd hc (by decide)) (fun _ => ?_)
  refine w_aloadN X k65_132_10 rfl (rfl) ?_
  refine w_iloadN X k65_132_11 rfl ?_
  refine w_iloadN X k65_132_12 rfl ?_
  refine w_callS X k65_132_13 (wd_277 hw) (wd_278 hw) (wd_138 hw) (wd_279 hw) (by decide) (argsL := [(.ref d), (.int 0), (.int 22)]) (S := []) (m_tcb_22 hw Ad hz hzn) pd_23 rfl rfl rfl (by decide) (leR rfl) (by decide) (by decide) (fun T h1 v1 L1 X q1 => ?_)
  obtain ⟨t1, rfl, r1⟩ := q1
  show Wp _ _ _ _ (T.setTop (mkF _ _ _ [(.ref t1)]))
  exact w_retR X rfl (rfl) rfl k65_132_16 ⟨t1, rfl, r1⟩ (by decide) (by decide)
theorem m_ti_22 (hw : own_hw a0 Z) {h0 : Heap} {zc : Int32} {fm : Value} {a b d : Addr} {zs : List Value} (hS : own_S Z zc fm) (ga : n0 ≤ a) (Ea : Exa Z h0 a "java/lang/String") (Va : Fld Z h0 a "java/lang/String" "value" "[B" .null) (Ca : Fld Z h0 a "java/lang/String" "coder" "B" (.int 0)) (Bd : Bld Z h0 b d (22 : Int32) zs) (hz : zs.length.toInt32 = (34 : Int32)) (hzn : zs.length = 34) :
    Does l Z n0 ⟨"java/lang/String", "<init>", "(Ljava/lang/AbstractStringBuilder;Ljava/lang/Void;)V"⟩ jdk_42_method_150_code 5 none [] { frames := 3, cells := 1, slots := 22, locals := 71 } #[(.ref a), (.ref b), .null] h0 (fun v h => v = none ∧ Keep h0 h [a] ∧ ∃ t, h0.size ≤ t ∧ n0 ≤ t ∧ Lat Z h a t (0 : Int32) (zs.take 22)) := by
  refine Does.start (plainFor_of_name pn_0) ?_
  obtain ⟨S_zc, hzc, S_fm, hfm⟩ := id hS
  intro p e s m below meth c T X
  replace X : Sd _ _ _ _ _ "java/lang/String" "<init>" _ _ _ _ _ _ _ _ _ _ _ _ _ _ _ _ := X
  refine Wp.cast (g' := mkF m 0 #[.val (.ref a), .val (.ref b), .val .null, .unset, .unset] []) (by first | (simp [entryFrame, mkF, argsToLocals, Value.category, maxLocals]; done) | rfl) ?_
  have nda : d ≠ a := Ne.symm (own_ane Ea (wd_8 hw) Bd.2.2.2.2)
  refine w_aloadN X k42_150_0 rfl (rfl) ?_
  refine w_initO X k42_150_1 (wd_18 hw) (wd_19 hw) (wd_20 hw) rfl (by decide) (leR rfl) (fun T X => ?_)
  refine w_aloadN X k42_150_4 rfl (rfl) ?_
  refine w_callV X k42_150_5 (wd_118 hw) (wd_119 hw) (nfs X.hZ (wd_121 hw)) (wd_121 hw) (wd_120 hw) (wd_48 hw) (wd_122 hw) (by decide) Bd.1 (argsL := []) (S := []) (m_gv hw Bd.2.1) pd_21 rfl rfl rfl (by decide) (leR rfl) (by decide) (by decide) (fun T h1 v1 L1 X q1 => ?_)
  obtain ⟨rfl, rfl⟩ := q1
  show Wp _ _ _ _ (T.setTop (mkF _ _ _ [(.ref d)]))
  refine w_astoreN X #[.val (.ref a), .val (.ref b), .val .null, .val (.ref d), .unset] k42_150_8 (rfl) rfl ?_
  refine w_aloadN X k42_150_9 rfl (rfl) ?_
  refine w_callV X k42_150_10 (wd_123 hw) (wd_124 hw) (own_nf (args := #[]) (mvT X.hZ (wd_121 hw)) rfl) (wd_126 hw) (wd_127 hw) (wd_40 hw) (wd_128 hw) (by decide) Bd.1 (argsL := []) (S := []) (m_bl hw Bd.1 Bd.2.2.2.1) pd_18 rfl rfl rfl (by decide) (leR rfl) (by decide) (by decide) (fun T h2 v2 L2 X q2 => ?_)
  obtain ⟨rfl, rfl⟩ := q2
  show Wp _ _ _ _ (T.setTop (mkF _ _ _ [(.int 22)]))
  refine w_istore X #[.val (.ref a), .val (.ref b), .val .null, .val (.ref d), .val (.int 22)] k42_150_13 rfl ?_
  refine w_aloadN X k42_150_15 rfl (rfl) ?_
  refine w_callV X k42_150_16 (wd_131 hw) (wd_132 hw) (nfs X.hZ (wd_134 hw)) (wd_134 hw) (wd_133 hw) (wd_48 hw) (wd_135 hw) (by decide) Bd.1 (argsL := []) (S := []) (m_ila hw hS Bd.2.2.1) pd_22 rfl rfl rfl (by decide) (leR rfl) (by decide) (by decide) (fun T h3 v3 L3 X q3 => ?_)
  obtain ⟨rfl, rfl⟩ := q3
  show Wp _ _ _ _ (T.setTop (mkF _ _ _ [(.int 1)]))
  refine w_ifeq X k42_150_19 (fun hc => absurd hc (by decide)) (fun _ => ?_)
  refine w_aloadN X k42_150_22 rfl (rfl) ?_
  refine w_iconst X (0 : Int32) k42_150_23 rfl ?_
  refine w_putFN X k42_150_24 (wd_28 hw) Via.refl Ca Ea (Or.inr ⟨(wd_24 hw), rfl, rfl⟩) (wd_8 hw) (ty := .byte) (by decide) (.int 0) rfl (by decide) ga (fun T h4 X W4 => ?_)
  have f1 := Ca.same W4
  have K2 : Keep h0 h4 [a] := (Keep.refl h0 [a]).wr W4 (Or.inl (List.mem_of_getElem? (i := 0) rfl))
  refine w_aloadN X k42_150_27 rfl (rfl) ?_
  refine w_aloadN X k42_150_28 rfl (rfl) ?_
  refine w_iconst X (0 : Int32) k42_150_29 rfl ?_
  refine w_iload X k42_150_30 rfl ?_
  have f3 := (Bd.2.2.2.2.other W4 nda)
  refine w_callS X k42_150_32 (wd_136 hw) (wd_137 hw) (wd_138 hw) (wd_139 hw) (by decide) (argsL := [(.ref d), (.int 0), (.int 22)]) (S := [(.ref a)]) (m_tcr_22 hw f3 hz hzn) pd_23 rfl rfl rfl (by decide) (leR rfl) (by decide) (by decide) (fun T h5 v5 L5 X q5 => ?_)
  obtain ⟨t5, rfl, gt5, gn5, At5, Kc5⟩ := q5
  have K4 : Keep h0 h5 [a] := K2.trans Kc5 (fun x hx => nomatch hx)
  have sz_t5 : h0.size ≤ t5 := Nat.le_trans K2.1 gt5
  show Wp _ _ _ _ (T.setTop (mkF _ _ _ [(.ref t5), (.ref a)]))
  have f5 := ((Ea.wr W4).keep Kc5)
  have f6 := ((Va.other W4 (Or.inr (slot_ne (Or.inr (wd_23 hw)) (Or.inr (wd_24 hw)) (by decide) (t := (.array .byte)) (t' := .byte) (by decide) (by decide)))).keep Kc5 (List.not_mem_nil))
  refine w_putF X k42_150_35 (host := "") (Or.inl (wd_27 hw)) Via.refl f6 f5 (Or.inr ⟨(wd_23 hw), rfl, rfl⟩) (wd_8 hw) (ty := (.array .byte)) (by decide) rfl rfl ga (fun T h6 X W6 => ?_)
  have f7 := f6.same W6
  have K8 : Keep h0 h6 [a] := K4.wr W6 (Or.inl (List.mem_of_getElem? (i := 0) rfl))
  refine w_goto X k42_150_38 ?_
  have f9 := (f5.wr W6)
  have f10 := ((f1.keep Kc5 (List.not_mem_nil)).other W6 (Or.inr (slot_ne (Or.inr (wd_24 hw)) (Or.inr (wd_23 hw)) (by decide) (t := .byte) (t' := (.array .byte)) (by decide) (by decide))))
  have f11 := (At5.other W6 (Ne.symm (nel (ltl (ltl Ea.lt (Nat.le_of_eq W4.size.symm)) gt5))))
  exact w_retV X k42_150_97 ⟨rfl, K8, _, sz_t5, gn5, ⟨f9, f10, f7, f11⟩⟩ (by decide) (by decide)
theorem m_tj_22 (hw : own_hw a0 Z) {h0 : Heap} {zc : Int32} {fm : Value} {a b d : Addr} {zs : List Value} (hS : own_S Z zc fm) (ga : n0 ≤ a) (Ea : Exa Z h0 a "java/lang/String") (Va : Fld Z h0 a "java/lang/String" "value" "[B" .null) (Ca : Fld Z h0 a "java/lang/String" "coder" "B" (.int 0)) (Bd : Bld Z h0 b d (22 : Int32) zs) (hz : zs.length.toInt32 = (34 : Int32)) (hzn : zs.length = 34) :
    Does l Z n0 ⟨"java/lang/String", "<init>", "(Ljava/lang/StringBuilder;)V"⟩ jdk_42_method_53_code 2 none [] { frames := 4, cells := 1, slots := 22, locals := 87 } #[(.ref a), (.ref b)] h0 (fun v h => v = none ∧ Keep h0 h [a] ∧ ∃ t, h0.size ≤ t ∧ n0 ≤ t ∧ Lat Z h a t (0 : Int32) (zs.take 22)) := by
  refine Does.start (plainFor_of_name pn_0) ?_
  obtain ⟨S_zc, hzc, S_fm, hfm⟩ := id hS
  intro p e s m below meth c T X
  replace X : Sd _ _ _ _ _ "java/lang/String" "<init>" _ _ _ _ _ _ _ _ _ _ _ _ _ _ _ _ := X
  refine Wp.cast (g' := mkF m 0 #[.val (.ref a), .val (.ref b)] []) (by first | (simp [entryFrame, mkF, argsToLocals, Value.category, maxLocals]; done) | rfl) ?_
  refine w_aloadN X k42_53_0 rfl (rfl) ?_
  refine w_aloadN X k42_53_1 rfl (rfl) ?_
  refine w_aconstNull X k42_53_2 ?_
  refine w_callI X k42_53_3 rfl (wd_115 hw) (wd_116 hw) (wd_9 hw) (wd_117 hw) (by decide) (argsL := [(.ref b), .null]) (S := []) (m_ti_22 hw hS ga Ea Va Ca Bd hz hzn) pd_24 rfl rfl rfl (by decide) (leR rfl) (by decide) (by decide) (fun T h1 v1 L1 X q1 => ?_)
  obtain ⟨rfl, r1⟩ := q1
  show Wp _ _ _ _ (T.setTop (mkF _ _ _ []))
  exact w_retV X k42_53_6 ⟨rfl, r1⟩ (by decide) (by decide)
theorem m_ts_22 (hw : own_hw a0 Z) {h0 : Heap} {zc : Int32} {fm : Value} {b d : Addr} {zs : List Value} (hS : own_S Z zc fm) (Bd : Bld Z h0 b d (22 : Int32) zs) (hz : zs.length.toInt32 = (34 : Int32)) (hzn : zs.length = 34) :
    Does l Z n0 ⟨"java/lang/StringBuilder", "toString", "()Ljava/lang/String;"⟩ jdk_67_method_42_code 1 (some (.object "java/lang/String")) [] { frames := 5, cells := 2, slots := 26, locals := 101 } #[(.ref b)] h0 (fun v h => ∃ a t, v = some (.ref a) ∧ h0.size ≤ a ∧ n0 ≤ a ∧ h0.size ≤ t ∧ n0 ≤ t ∧ Lat Z h a t (0 : Int32) (zs.take 22) ∧ Keep h0 h []) := by
  refine Does.start (plainFor_of_name pn_5) ?_
  obtain ⟨S_zc, hzc, S_fm, hfm⟩ := id hS
  intro p e s m below meth c T X
  replace X : Sd _ _ _ _ _ "java/lang/StringBuilder" "toString" _ _ _ _ _ _ _ _ _ _ _ _ _ _ _ _ := X
  refine Wp.cast (g' := mkF m 0 #[.val (.ref b)] []) (by first | (simp [entryFrame, mkF, argsToLocals, Value.category, maxLocals]; done) | rfl) ?_
  refine w_new X k67_42_0 (wd_111 hw) (wd_8 hw) (wd_9 hw) (by decide) (by decide) (fun T h1 b1 g1 gn1 X E1 A1 D1 => ?_)
  have sz_b1 : h0.size ≤ b1 := Nat.le_trans (Keep.refl h0 []).1 (Nat.le_of_eq g1.symm)
  have K1 : Keep h0 h1 [] := (Keep.refl h0 []).ext E1
  refine w_dup X k67_42_3 rfl ?_
  refine w_aloadN X k67_42_4 rfl (rfl) ?_
  refine w_callI X k67_42_5 rfl (wd_112 hw) (wd_113 hw) (wd_9 hw) (wd_114 hw) (by decide) (argsL := [(.ref b)]) (S := [(.ref b1)]) (m_tj_22 hw hS gn1 A1 (show Fld Z h1 b1 "java/lang/String" "value" "[B" .null from D1 (Or.inr (wd_23 hw)) (ty := (.array .byte)) (by decide)) (show Fld Z h1 b1 "java/lang/String" "coder" "B" (.int 0) from D1 (Or.inr (wd_24 hw)) (ty := .byte) (by decide)) ⟨Bd.1.ext E1, Bd.2.1.ext E1, Bd.2.2.1.ext E1, Bd.2.2.2.1.ext E1, Bd.2.2.2.2.ext E1⟩ hz hzn) pd_25 rfl rfl rfl (by decide) (leR rfl) (by decide) (by decide) (fun T h2 v2 L2 X q2 => ?_)
  obtain ⟨rfl, Kc2, t2, gt2, gn2, Tx2⟩ := q2
  have K2 : Keep h0 h2 [] := K1.trans Kc2 (fun x hx => by cases List.mem_singleton.mp hx; exact (Or.inr sz_b1))
  have sz_t2 : h0.size ≤ t2 := Nat.le_trans K1.1 gt2
  show Wp _ _ _ _ (T.setTop (mkF _ _ _ [(.ref b1)]))
  exact w_retR X rfl (rfl) rfl k67_42_8 ⟨_, _, rfl, sz_b1, gn1, sz_t2, gn2, Tx2, K2⟩ (by decide) (by decide)
theorem m_msg_0_0 (hw : own_hw a0 Z) {h0 : Heap} {zc : Int32} {fm : Value} {p1 p2 t1 t2 : Addr}  (hS : own_S Z zc fm) (hheld : ∀ p ∈ consts_1, Jvm.Lit.constHeld Z p.1 p.2) (hcw : Jvm.Lit.compactW.before a0 Z = true) (T1 : Lat Z h0 p1 t1 (0 : Int32) []) (T2 : Lat Z h0 p2 t2 (0 : Int32) []) :
    DoesG l Z n0 (own_G Z h0) ⟨"com/example/inflow/inflow/model/DeploymentException", "message", "(Ljava/lang/String;Ljava/lang/String;)Ljava/lang/String;"⟩ prog_8_method_11_code 2 (some (.object "java/lang/String")) [] { frames := 6, cells := 9, slots := 152, locals := 113 } #[(.ref p1), (.ref p2)] h0 (fun v h vm => ∃ a t, v = some (.ref a) ∧ Lat Z h a t (0 : Int32) [(.int 67), (.int 97), (.int 110), (.int 110), (.int 111), (.int 116), (.int 32), (.int 100), (.int 101), (.int 112), (.int 108), (.int 111), (.int 121), (.int 32), (.int 58), (.int 32)] ∧ Keep h0 h [] ∧ Et Z "Cannot deploy " h vm) := by
  refine DoesG.start (plainFor_of_name pn_9) ?_
  obtain ⟨S_zc, hzc, S_fm, hfm⟩ := id hS
  intro p e s m below meth c T X Y hs0 Gs
  replace X : Sd _ _ _ _ _ "com/example/inflow/inflow/model/DeploymentException" "message" _ _ _ _ _ _ _ _ _ _ _ _ _ _ _ _ := X
  refine Wp.cast (g' := mkF m 0 #[.val (.ref p1), .val (.ref p2)] []) (by first | (simp [entryFrame, mkF, argsToLocals, Value.category, maxLocals]; done) | rfl) ?_
  have hZ0 := X.old.2.2
  refine w_new X q8_11_0 (wd_38 hw) (wd_39 hw) (wd_40 hw) (by decide) (by decide) (fun T h1 b1 g1 gn1 X E1 A1 D1 => ?_)
  have sz_b1 : h0.size ≤ b1 := Nat.le_trans (Keep.refl h0 []).1 (Nat.le_of_eq g1.symm)
  have K1 : Keep h0 h1 [] := (Keep.refl h0 []).ext E1
  refine w_dup X q8_11_3 rfl ?_
  refine w_callI X q8_11_4 rfl (wd_41 hw) (wd_42 hw) (wd_40 hw) (wd_43 hw) (by decide) (argsL := []) (S := [(.ref b1)]) (m_sb hw hS gn1 A1 (show Fld Z h1 b1 "java/lang/AbstractStringBuilder" "value" "[B" .null from D1 (Or.inl (wd_53 hw)) (ty := (.array .byte)) (by decide)) (show Fld Z h1 b1 "java/lang/AbstractStringBuilder" "coder" "B" (.int 0) from D1 (Or.inl (wd_55 hw)) (ty := .byte) (by decide)) (show Fld Z h1 b1 "java/lang/AbstractStringBuilder" "count" "I" (.int 0) from D1 (Or.inl (wd_79 hw)) (ty := .int) (by decide))) pd_27 rfl rfl rfl (by decide) (leR rfl) (by decide) (by decide) (fun T h2 v2 L2 X q2 => ?_)
  obtain ⟨rfl, Kc2, d2, gt2, gn2, Bd2, Ed2⟩ := q2
  have K2 : Keep h0 h2 [] := K1.trans Kc2 (fun x hx => by cases List.mem_singleton.mp hx; exact (Or.inr sz_b1))
  have sz_d2 : h0.size ≤ d2 := Nat.le_trans K1.1 gt2
  replace Bd2 : Bld Z h2 b1 d2 (0 : Int32) [(.int 0), (.int 0), (.int 0), (.int 0), (.int 0), (.int 0), (.int 0), (.int 0), (.int 0), (.int 0), (.int 0), (.int 0), (.int 0), (.int 0), (.int 0), (.int 0)] := Bd2
  show Wp _ _ _ _ (T.setTop (mkF _ _ _ [(.ref b1)]))
  refine v_ldcX X Y q8_11_7 (wd_56 hw) (own_wS hw) (by rw [hs0]; exact fun b c r => K2.2.1 b c r List.not_mem_nil) (by rw [hs0]; exact hZ0) (by rw [hs0]; exact Gs.2.1) (Gs.2.1.keep K2) (hheld _ (List.mem_of_getElem? (i := 0) rfl)) hcw [(.int 67), (.int 97), (.int 110), (.int 110), (.int 111), (.int 116), (.int 32), (.int 100), (.int 101), (.int 112), (.int 108), (.int 111), (.int 121), (.int 32)] (by decide) 56 (by decide) (by decide) (by decide) (by decide) (fun T h3 u kk a3 b3 X Y Ex3 E3 C3 V3 B3 M3 O3 L3 N3 => ?_)
  have K3 : Keep h0 h3 [] := K2.ext Ex3
  have f4 := (Bd2.1.ext Ex3)
  have n13 : a3 ≠ b1 := own_neC E3 f4 (by decide)
  have n23 : b3 ≠ b1 := Ne.symm (own_ane f4 (wd_39 hw) B3)
  have f5 := (Bd2.2.2.2.2.ext Ex3)
  have n33 : a3 ≠ d2 := own_ane E3 (wd_8 hw) f5
  have n43 : b3 ≠ d2 := own_aryNe B3 f5 (by decide)
  have f6 := (Bd2.2.1.ext Ex3)
  have f7 := (Bd2.2.2.1.ext Ex3)
  have f8 := (Bd2.2.2.2.1.ext Ex3)
  refine w_callV X q8_11_9 (wd_57 hw) (wd_58 hw) (nfs X.hZ (wd_60 hw)) (wd_60 hw) (wd_59 hw) (wd_40 hw) (wd_61 hw) (by decide) f4 (argsL := [(.ref a3)]) (S := []) (m_app hw hS gn1 gn2 ⟨f4, f6, f7, f8, f5⟩ ⟨E3, C3, V3, B3⟩ (k := (0 : Int32)) (n := (14 : Int32)) (cp := (16 : Int32)) rfl (by decide) rfl (by decide) (leR rfl)) pd_28 rfl rfl rfl (by decide) (leR rfl) (by decide) (by decide) (fun T h4 v4 L4 X q4 => ?_)
  obtain ⟨rfl, Kc4, Bd4⟩ := q4
  have K9 : Keep h0 h4 [] := K3.trans Kc4 (fun x hx => by simp only [List.mem_cons, List.not_mem_nil, or_false] at hx; rcases hx with rfl | rfl <;> first | exact (Or.inr sz_b1) | exact (Or.inr sz_d2))
  replace Bd4 : Bld Z h4 b1 d2 (14 : Int32) [(.int 67), (.int 97), (.int 110), (.int 110), (.int 111), (.int 116), (.int 32), (.int 100), (.int 101), (.int 112), (.int 108), (.int 111), (.int 121), (.int 32), (.int 0), (.int 0)] := Bd4
  show Wp _ _ _ _ (T.setTop (mkF _ _ _ [(.ref b1)]))
  refine w_aloadN X q8_11_12 rfl (rfl) ?_
  have f10 := ((((T1.ext E1).keep Kc2 (ni1 (nel (ltl T1.1.lt (Nat.le_of_eq g1.symm)))) (ni1 (nel (ltl T1.2.2.2.lt (Nat.le_of_eq g1.symm))))).ext Ex3).keep Kc4 (ni2 ⟨(nel (ltl T1.1.lt (Nat.le_of_eq g1.symm))), (nel (ltl (ltl T1.1.lt E1.1) gt2))⟩) (ni2 ⟨(nel (ltl T1.2.2.2.lt (Nat.le_of_eq g1.symm))), (nel (ltl (ltl T1.2.2.2.lt E1.1) gt2))⟩))
  refine w_callV X q8_11_13 (wd_57 hw) (wd_58 hw) (nfs X.hZ (wd_60 hw)) (wd_60 hw) (wd_59 hw) (wd_40 hw) (wd_61 hw) (by decide) Bd4.1 (argsL := [(.ref p1)]) (S := []) (m_app hw hS gn1 gn2 ⟨Bd4.1, Bd4.2.1, Bd4.2.2.1, Bd4.2.2.2.1, Bd4.2.2.2.2⟩ f10 (k := (14 : Int32)) (n := (0 : Int32)) (cp := (16 : Int32)) rfl (by decide) rfl (by decide) (leR rfl)) pd_28 rfl rfl rfl (by decide) (leR rfl) (by decide) (by decide) (fun T h5 v5 L5 X q5 => ?_)
  obtain ⟨rfl, Kc5, Bd5⟩ := q5
  have K11 : Keep h0 h5 [] := K9.trans Kc5 (fun x hx => by simp only [List.mem_cons, List.not_mem_nil, or_false] at hx; rcases hx with rfl | rfl <;> first | exact (Or.inr sz_b1) | exact (Or.inr sz_d2))
  replace Bd5 : Bld Z h5 b1 d2 (14 : Int32) [(.int 67), (.int 97), (.int 110), (.int 110), (.int 111), (.int 116), (.int 32), (.int 100), (.int 101), (.int 112), (.int 108), (.int 111), (.int 121), (.int 32), (.int 0), (.int 0)] := Bd5
  show Wp _ _ _ _ (T.setTop (mkF _ _ _ [(.ref b1)]))
  refine v_ldcX X Y q8_11_16 (wd_105 hw) (own_wS hw) (by rw [hs0]; exact fun b c r => K11.2.1 b c r List.not_mem_nil) (by rw [hs0]; exact hZ0) (by rw [hs0]; exact own_EtO Gs.2.2 (Keep.refl _ _) (fun us hus => N3.2.2.1 _ us (by decide) hus) N3.2.2.2) (own_EtO Gs.2.2 K11 (fun us hus => N3.2.2.1 _ us (by decide) hus) N3.2.2.2) (hheld _ (List.mem_of_getElem? (i := 1) rfl)) hcw [(.int 58), (.int 32)] (by decide) 8 (by decide) (by decide) (by decide) (by decide) (fun T h6 u kk a6 b6 X Y Ex6 E6 C6 V6 B6 M6 O6 L6 N6 => ?_)
  have K12 : Keep h0 h6 [] := K11.ext Ex6
  have f13 := (Bd5.1.ext Ex6)
  have f14 := (Bd5.2.1.ext Ex6)
  have f15 := (Bd5.2.2.1.ext Ex6)
  have f16 := (Bd5.2.2.2.1.ext Ex6)
  have f17 := (Bd5.2.2.2.2.ext Ex6)
  refine w_callV X q8_11_18 (wd_57 hw) (wd_58 hw) (nfs X.hZ (wd_60 hw)) (wd_60 hw) (wd_59 hw) (wd_40 hw) (wd_61 hw) (by decide) f13 (argsL := [(.ref a6)]) (S := []) (m_app hw hS gn1 gn2 ⟨f13, f14, f15, f16, f17⟩ ⟨E6, C6, V6, B6⟩ (k := (14 : Int32)) (n := (2 : Int32)) (cp := (16 : Int32)) rfl (by decide) rfl (by decide) (leR rfl)) pd_28 rfl rfl rfl (by decide) (leR rfl) (by decide) (by decide) (fun T h7 v7 L7 X q7 => ?_)
  obtain ⟨rfl, Kc7, Bd7⟩ := q7
  have K18 : Keep h0 h7 [] := K12.trans Kc7 (fun x hx => by simp only [List.mem_cons, List.not_mem_nil, or_false] at hx; rcases hx with rfl | rfl <;> first | exact (Or.inr sz_b1) | exact (Or.inr sz_d2))
  replace Bd7 : Bld Z h7 b1 d2 (16 : Int32) [(.int 67), (.int 97), (.int 110), (.int 110), (.int 111), (.int 116), (.int 32), (.int 100), (.int 101), (.int 112), (.int 108), (.int 111), (.int 121), (.int 32), (.int 58), (.int 32)] := Bd7
  show Wp _ _ _ _ (T.setTop (mkF _ _ _ [(.ref b1)]))
  refine w_aloadN X q8_11_21 rfl (rfl) ?_
  have f19 := (((((((T2.ext E1).keep Kc2 (ni1 (nel (ltl T2.1.lt (Nat.le_of_eq g1.symm)))) (ni1 (nel (ltl T2.2.2.2.lt (Nat.le_of_eq g1.symm))))).ext Ex3).keep Kc4 (ni2 ⟨(nel (ltl T2.1.lt (Nat.le_of_eq g1.symm))), (nel (ltl (ltl T2.1.lt E1.1) gt2))⟩) (ni2 ⟨(nel (ltl T2.2.2.2.lt (Nat.le_of_eq g1.symm))), (nel (ltl (ltl T2.2.2.2.lt E1.1) gt2))⟩)).keep Kc5 (ni2 ⟨(nel (ltl T2.1.lt (Nat.le_of_eq g1.symm))), (nel (ltl (ltl T2.1.lt E1.1) gt2))⟩) (ni2 ⟨(nel (ltl T2.2.2.2.lt (Nat.le_of_eq g1.symm))), (nel (ltl (ltl T2.2.2.2.lt E1.1) gt2))⟩)).ext Ex6).keep Kc7 (ni2 ⟨(nel (ltl T2.1.lt (Nat.le_of_eq g1.symm))), (nel (ltl (ltl T2.1.lt E1.1) gt2))⟩) (ni2 ⟨(nel (ltl T2.2.2.2.lt (Nat.le_of_eq g1.symm))), (nel (ltl (ltl T2.2.2.2.lt E1.1) gt2))⟩))
  refine w_callV X q8_11_22 (wd_57 hw) (wd_58 hw) (nfs X.hZ (wd_60 hw)) (wd_60 hw) (wd_59 hw) (wd_40 hw) (wd_61 hw) (by decide) Bd7.1 (argsL := [(.ref p2)]) (S := []) (m_app hw hS gn1 gn2 ⟨Bd7.1, Bd7.2.1, Bd7.2.2.1, Bd7.2.2.2.1, Bd7.2.2.2.2⟩ f19 (k := (16 : Int32)) (n := (0 : Int32)) (cp := (16 : Int32)) rfl (by decide) rfl (by decide) (leR rfl)) pd_28 rfl rfl rfl (by decide) (leR rfl) (by decide) (by decide) (fun T h8 v8 L8 X q8 => ?_)
  obtain ⟨rfl, Kc8, Bd8⟩ := q8
  have K20 : Keep h0 h8 [] := K18.trans Kc8 (fun x hx => by simp only [List.mem_cons, List.not_mem_nil, or_false] at hx; rcases hx with rfl | rfl <;> first | exact (Or.inr sz_b1) | exact (Or.inr sz_d2))
  replace Bd8 : Bld Z h8 b1 d2 (16 : Int32) [(.int 67), (.int 97), (.int 110), (.int 110), (.int 111), (.int 116), (.int 32), (.int 100), (.int 101), (.int 112), (.int 108), (.int 111), (.int 121), (.int 32), (.int 58), (.int 32)] := Bd8
  show Wp _ _ _ _ (T.setTop (mkF _ _ _ [(.ref b1)]))
  have f21 := ((((((Ed2.ext Ex3).keep Kc4).keep Kc5).ext Ex6).keep Kc7).keep Kc8)
  refine w_callV X q8_11_25 (wd_106 hw) (wd_107 hw) (nfs X.hZ (wd_109 hw)) (wd_109 hw) (wd_108 hw) (wd_40 hw) (wd_110 hw) (by decide) Bd8.1 (argsL := []) (S := []) (m_ts_16 hw hS ⟨Bd8.1, Bd8.2.1, Bd8.2.2.1, Bd8.2.2.2.1, Bd8.2.2.2.2⟩ rfl rfl f21) pd_29 rfl rfl rfl (by decide) (leR rfl) (by decide) (by decide) (fun T h9 v9 L9 X q9 => ?_)
  obtain ⟨r9, t9, rfl, ga9, gb9, gc9, gd9, Tx9, Kc9⟩ := q9
  have K22 : Keep h0 h9 [] := K20.trans Kc9 (fun x hx => nomatch hx)
  replace Tx9 : Lat Z h9 r9 t9 (0 : Int32) [(.int 67), (.int 97), (.int 110), (.int 110), (.int 111), (.int 116), (.int 32), (.int 100), (.int 101), (.int 112), (.int 108), (.int 111), (.int 121), (.int 32), (.int 58), (.int 32)] := Tx9
  show Wp _ _ _ _ (T.setTop (mkF _ _ _ [(.ref r9)]))
  have f23 := ((((((E3.keep Kc4).keep Kc5).ext Ex6).keep Kc7).keep Kc8).keep Kc9)
  have f24 := ((((((C3.keep Kc4 (ni2 ⟨n13, n33⟩)).keep Kc5 (ni2 ⟨n13, n33⟩)).ext Ex6).keep Kc7 (ni2 ⟨n13, n33⟩)).keep Kc8 (ni2 ⟨n13, n33⟩)).keep Kc9 (List.not_mem_nil))
  have f25 := ((((((V3.keep Kc4 (ni2 ⟨n13, n33⟩)).keep Kc5 (ni2 ⟨n13, n33⟩)).ext Ex6).keep Kc7 (ni2 ⟨n13, n33⟩)).keep Kc8 (ni2 ⟨n13, n33⟩)).keep Kc9 (List.not_mem_nil))
  have f26 := ((((((B3.keep Kc4 (ni2 ⟨n23, n43⟩)).keep Kc5 (ni2 ⟨n23, n43⟩)).ext Ex6).keep Kc7 (ni2 ⟨n23, n43⟩)).keep Kc8 (ni2 ⟨n23, n43⟩)).keep Kc9 (List.not_mem_nil))
  have f27 := ((((((N3.1.keep Kc4).keep Kc5).ext Ex6).keep Kc7).keep Kc8).keep Kc9)
  exact g_retR X Y rfl (rfl) rfl q8_11_28 (fun vm' hW => ⟨_, _, rfl, Tx9, K22, own_EtF Gs.2.1 K22 N3.2.1 (fun us hus => N6.2.2.1 _ us (by decide) hus) hW.interned_eq ((N3.2.2.2.trans N6.2.2.2).trans hW.alike) (X.hZ.alike.trans hW.alike) ⟨by decide, rfl⟩ (wd_8 hw) ⟨f23, f24, f25, f26⟩ f27⟩) (by decide) (by decide)
theorem m_msg_0_1 (hw : own_hw a0 Z) {h0 : Heap} {zc : Int32} {fm : Value} {p1 p2 t1 t2 : Addr} {y0 : Int32} (hS : own_S Z zc fm) (hheld : ∀ p ∈ consts_1, Jvm.Lit.constHeld Z p.1 p.2) (hcw : Jvm.Lit.compactW.before a0 Z = true) (T1 : Lat Z h0 p1 t1 (0 : Int32) []) (T2 : Lat Z h0 p2 t2 (0 : Int32) [(.int y0)]) :
    DoesG l Z n0 (own_G Z h0) ⟨"com/example/inflow/inflow/model/DeploymentException", "message", "(Ljava/lang/String;Ljava/lang/String;)Ljava/lang/String;"⟩ prog_8_method_11_code 2 (some (.object "java/lang/String")) [] { frames := 6, cells := 9, slots := 152, locals := 113 } #[(.ref p1), (.ref p2)] h0 (fun v h vm => ∃ a t, v = some (.ref a) ∧ Lat Z h a t (0 : Int32) [(.int 67), (.int 97), (.int 110), (.int 110), (.int 111), (.int 116), (.int 32), (.int 100), (.int 101), (.int 112), (.int 108), (.int 111), (.int 121), (.int 32), (.int 58), (.int 32), (.int y0)] ∧ Keep h0 h [] ∧ Et Z "Cannot deploy " h vm) := by
  refine DoesG.start (plainFor_of_name pn_9) ?_
  obtain ⟨S_zc, hzc, S_fm, hfm⟩ := id hS
  intro p e s m below meth c T X Y hs0 Gs
  replace X : Sd _ _ _ _ _ "com/example/inflow/inflow/model/DeploymentException" "message" _ _ _ _ _ _ _ _ _ _ _ _ _ _ _ _ := X
  refine Wp.cast (g' := mkF m 0 #[.val (.ref p1), .val (.ref p2)] []) (by first | (simp [entryFrame, mkF, argsToLocals, Value.category, maxLocals]; done) | rfl) ?_
  have hZ0 := X.old.2.2
  refine w_new X q8_11_0 (wd_38 hw) (wd_39 hw) (wd_40 hw) (by decide) (by decide) (fun T h1 b1 g1 gn1 X E1 A1 D1 => ?_)
  have sz_b1 : h0.size ≤ b1 := Nat.le_trans (Keep.refl h0 []).1 (Nat.le_of_eq g1.symm)
  have K1 : Keep h0 h1 [] := (Keep.refl h0 []).ext E1
  refine w_dup X q8_11_3 rfl ?_
  refine w_callI X q8_11_4 rfl (wd_41 hw) (wd_42 hw) (wd_40 hw) (wd_43 hw) (by decide) (argsL := []) (S := [(.ref b1)]) (m_sb hw hS gn1 A1 (show Fld Z h1 b1 "java/lang/AbstractStringBuilder" "value" "[B" .null from D1 (Or.inl (wd_53 hw)) (ty := (.array .byte)) (by decide)) (show Fld Z h1 b1 "java/lang/AbstractStringBuilder" "coder" "B" (.int 0) from D1 (Or.inl (wd_55 hw)) (ty := .byte) (by decide)) (show Fld Z h1 b1 "java/lang/AbstractStringBuilder" "count" "I" (.int 0) from D1 (Or.inl (wd_79 hw)) (ty := .int) (by decide))) pd_27 rfl rfl rfl (by decide) (leR rfl) (by decide) (by decide) (fun T h2 v2 L2 X q2 => ?_)
  obtain ⟨rfl, Kc2, d2, gt2, gn2, Bd2, Ed2⟩ := q2
  have K2 : Keep h0 h2 [] := K1.trans Kc2 (fun x hx => by cases List.mem_singleton.mp hx; exact (Or.inr sz_b1))
  have sz_d2 : h0.size ≤ d2 := Nat.le_trans K1.1 gt2
  replace Bd2 : Bld Z h2 b1 d2 (0 : Int32) [(.int 0), (.int 0), (.int 0), (.int 0), (.int 0), (.int 0), (.int 0), (.int 0), (.int 0), (.int 0), (.int 0), (.int 0), (.int 0), (.int 0), (.int 0), (.int 0)] := Bd2
  show Wp _ _ _ _ (T.setTop (mkF _ _ _ [(.ref b1)]))
  refine v_ldcX X Y q8_11_7 (wd_56 hw) (own_wS hw) (by rw [hs0]; exact fun b c r => K2.2.1 b c r List.not_mem_nil) (by rw [hs0]; exact hZ0) (by rw [hs0]; exact Gs.2.1) (Gs.2.1.keep K2) (hheld _ (List.mem_of_getElem? (i := 0) rfl)) hcw [(.int 67), (.int 97), (.int 110), (.int 110), (.int 111), (.int 116), (.int 32), (.int 100), (.int 101), (.int 112), (.int 108), (.int 111), (.int 121), (.int 32)] (by decide) 56 (by decide) (by decide) (by decide) (by decide) (fun T h3 u kk a3 b3 X Y Ex3 E3 C3 V3 B3 M3 O3 L3 N3 => ?_)
  have K3 : Keep h0 h3 [] := K2.ext Ex3
  have f4 := (Bd2.1.ext Ex3)
  have n13 : a3 ≠ b1 := own_neC E3 f4 (by decide)
  have n23 : b3 ≠ b1 := Ne.symm (own_ane f4 (wd_39 hw) B3)
  have f5 := (Bd2.2.2.2.2.ext Ex3)
  have n33 : a3 ≠ d2 := own_ane E3 (wd_8 hw) f5
  have n43 : b3 ≠ d2 := own_aryNe B3 f5 (by decide)
  have f6 := (Bd2.2.1.ext Ex3)
  have f7 := (Bd2.2.2.1.ext Ex3)
  have f8 := (Bd2.2.2.2.1.ext Ex3)
  refine w_callV X q8_11_9 (wd_57 hw) (wd_58 hw) (nfs X.hZ (wd_60 hw)) (wd_60 hw) (wd_59 hw) (wd_40 hw) (wd_61 hw) (by decide) f4 (argsL := [(.ref a3)]) (S := []) (m_app hw hS gn1 gn2 ⟨f4, f6, f7, f8, f5⟩ ⟨E3, C3, V3, B3⟩ (k := (0 : Int32)) (n := (14 : Int32)) (cp := (16 : Int32)) rfl (by decide) rfl (by decide) (leR rfl)) pd_28 rfl rfl rfl (by decide) (leR rfl) (by decide) (by decide) (fun T h4 v4 L4 X q4 => ?_)
  obtain ⟨rfl, Kc4, Bd4⟩ := q4
  have K9 : Keep h0 h4 [] := K3.trans Kc4 (fun x hx => by simp only [List.mem_cons, List.not_mem_nil, or_false] at hx; rcases hx with rfl | rfl <;> first | exact (Or.inr sz_b1) | exact (Or.inr sz_d2))
  replace Bd4 : Bld Z h4 b1 d2 (14 : Int32) [(.int 67), (.int 97), (.int 110), (.int 110), (.int 111), (.int 116), (.int 32), (.int 100), (.int 101), (.int 112), (.int 108), (.int 111), (.int 121), (.int 32), (.int 0), (.int 0)] := Bd4
  show Wp _ _ _ _ (T.setTop (mkF _ _ _ [(.ref b1)]))
  refine w_aloadN X q8_11_12 rfl (rfl) ?_
  have f10 := ((((T1.ext E1).keep Kc2 (ni1 (nel (ltl T1.1.lt (Nat.le_of_eq g1.symm)))) (ni1 (nel (ltl T1.2.2.2.lt (Nat.le_of_eq g1.symm))))).ext Ex3).keep Kc4 (ni2 ⟨(nel (ltl T1.1.lt (Nat.le_of_eq g1.symm))), (nel (ltl (ltl T1.1.lt E1.1) gt2))⟩) (ni2 ⟨(nel (ltl T1.2.2.2.lt (Nat.le_of_eq g1.symm))), (nel (ltl (ltl T1.2.2.2.lt E1.1) gt2))⟩))
  refine w_callV X q8_11_13 (wd_57 hw) (wd_58 hw) (nfs X.hZ (wd_60 hw)) (wd_60 hw) (wd_59 hw) (wd_40 hw) (wd_61 hw) (by decide) Bd4.1 (argsL := [(.ref p1)]) (S := []) (m_app hw hS gn1 gn2 ⟨Bd4.1, Bd4.2.1, Bd4.2.2.1, Bd4.2.2.2.1, Bd4.2.2.2.2⟩ f10 (k := (14 : Int32)) (n := (0 : Int32)) (cp := (16 : Int32)) rfl (by decide) rfl (by decide) (leR rfl)) pd_28 rfl rfl rfl (by decide) (leR rfl) (by decide) (by decide) (fun T h5 v5 L5 X q5 => ?_)
  obtain ⟨rfl, Kc5, Bd5⟩ := q5
  have K11 : Keep h0 h5 [] := K9.trans Kc5 (fun x hx => by simp only [List.mem_cons, List.not_mem_nil, or_false] at hx; rcases hx with rfl | rfl <;> first | exact (Or.inr sz_b1) | exact (Or.inr sz_d2))
  replace Bd5 : Bld Z h5 b1 d2 (14 : Int32) [(.int 67), (.int 97), (.int 110), (.int 110), (.int 111), (.int 116), (.int 32), (.int 100), (.int 101), (.int 112), (.int 108), (.int 111), (.int 121), (.int 32), (.int 0), (.int 0)] := Bd5
  show Wp _ _ _ _ (T.setTop (mkF _ _ _ [(.ref b1)]))
  refine v_ldcX X Y q8_11_16 (wd_105 hw) (own_wS hw) (by rw [hs0]; exact fun b c r => K11.2.1 b c r List.not_mem_nil) (by rw [hs0]; exact hZ0) (by rw [hs0]; exact own_EtO Gs.2.2 (Keep.refl _ _) (fun us hus => N3.2.2.1 _ us (by decide) hus) N3.2.2.2) (own_EtO Gs.2.2 K11 (fun us hus => N3.2.2.1 _ us (by decide) hus) N3.2.2.2) (hheld _ (List.mem_of_getElem? (i := 1) rfl)) hcw [(.int 58), (.int 32)] (by decide) 8 (by decide) (by decide) (by decide) (by decide) (fun T h6 u kk a6 b6 X Y Ex6 E6 C6 V6 B6 M6 O6 L6 N6 => ?_)
  have K12 : Keep h0 h6 [] := K11.ext Ex6
  have f13 := (Bd5.1.ext Ex6)
  have f14 := (Bd5.2.1.ext Ex6)
  have f15 := (Bd5.2.2.1.ext Ex6)
  have f16 := (Bd5.2.2.2.1.ext Ex6)
  have f17 := (Bd5.2.2.2.2.ext Ex6)
  refine w_callV X q8_11_18 (wd_57 hw) (wd_58 hw) (nfs X.hZ (wd_60 hw)) (wd_60 hw) (wd_59 hw) (wd_40 hw) (wd_61 hw) (by decide) f13 (argsL := [(.ref a6)]) (S := []) (m_app hw hS gn1 gn2 ⟨f13, f14, f15, f16, f17⟩ ⟨E6, C6, V6, B6⟩ (k := (14 : Int32)) (n := (2 : Int32)) (cp := (16 : Int32)) rfl (by decide) rfl (by decide) (leR rfl)) pd_28 rfl rfl rfl (by decide) (leR rfl) (by decide) (by decide) (fun T h7 v7 L7 X q7 => ?_)
  obtain ⟨rfl, Kc7, Bd7⟩ := q7
  have K18 : Keep h0 h7 [] := K12.trans Kc7 (fun x hx => by simp only [List.mem_cons, List.not_mem_nil, or_false] at hx; rcases hx with rfl | rfl <;> first | exact (Or.inr sz_b1) | exact (Or.inr sz_d2))
  replace Bd7 : Bld Z h7 b1 d2 (16 : Int32) [(.int 67), (.int 97), (.int 110), (.int 110), (.int 111), (.int 116), (.int 32), (.int 100), (.int 101), (.int 112), (.int 108), (.int 111), (.int 121), (.int 32), (.int 58), (.int 32)] := Bd7
  show Wp _ _ _ _ (T.setTop (mkF _ _ _ [(.ref b1)]))
  refine w_aloadN X q8_11_21 rfl (rfl) ?_
  have f19 := (((((((T2.ext E1).keep Kc2 (ni1 (nel (ltl T2.1.lt (Nat.le_of_eq g1.symm)))) (ni1 (nel (ltl T2.2.2.2.lt (Nat.le_of_eq g1.symm))))).ext Ex3).keep Kc4 (ni2 ⟨(nel (ltl T2.1.lt (Nat.le_of_eq g1.symm))), (nel (ltl (ltl T2.1.lt E1.1) gt2))⟩) (ni2 ⟨(nel (ltl T2.2.2.2.lt (Nat.le_of_eq g1.symm))), (nel (ltl (ltl T2.2.2.2.lt E1.1) gt2))⟩)).keep Kc5 (ni2 ⟨(nel (ltl T2.1.lt (Nat.le_of_eq g1.symm))), (nel (ltl (ltl T2.1.lt E1.1) gt2))⟩) (ni2 ⟨(nel (ltl T2.2.2.2.lt (Nat.le_of_eq g1.symm))), (nel (ltl (ltl T2.2.2.2.lt E1.1) gt2))⟩)).ext Ex6).keep Kc7 (ni2 ⟨(nel (ltl T2.1.lt (Nat.le_of_eq g1.symm))), (nel (ltl (ltl T2.1.lt E1.1) gt2))⟩) (ni2 ⟨(nel (ltl T2.2.2.2.lt (Nat.le_of_eq g1.symm))), (nel (ltl (ltl T2.2.2.2.lt E1.1) gt2))⟩))
  refine w_callV X q8_11_22 (wd_57 hw) (wd_58 hw) (nfs X.hZ (wd_60 hw)) (wd_60 hw) (wd_59 hw) (wd_40 hw) (wd_61 hw) (by decide) Bd7.1 (argsL := [(.ref p2)]) (S := []) (m_apg_16_1 hw hS gn1 gn2 ⟨Bd7.1, Bd7.2.1, Bd7.2.2.1, Bd7.2.2.2.1, Bd7.2.2.2.2⟩ f19 rfl rfl rfl rfl) pd_28 rfl rfl rfl (by decide) (leR rfl) (by decide) (by decide) (fun T h8 v8 L8 X q8 => ?_)
  obtain ⟨rfl, Kc8, d8, gt8, gn8, Bd8, Ed8⟩ := q8
  have K20 : Keep h0 h8 [] := K18.trans Kc8 (fun x hx => by cases List.mem_singleton.mp hx; exact (Or.inr sz_b1))
  have sz_d8 : h0.size ≤ d8 := Nat.le_trans K18.1 gt8
  replace Bd8 : Bld Z h8 b1 d8 (17 : Int32) [(.int 67), (.int 97), (.int 110), (.int 110), (.int 111), (.int 116), (.int 32), (.int 100), (.int 101), (.int 112), (.int 108), (.int 111), (.int 121), (.int 32), (.int 58), (.int 32), (.int y0), (.int 0), (.int 0), (.int 0), (.int 0), (.int 0), (.int 0), (.int 0), (.int 0), (.int 0), (.int 0), (.int 0), (.int 0), (.int 0), (.int 0), (.int 0), (.int 0), (.int 0)] := Bd8
  show Wp _ _ _ _ (T.setTop (mkF _ _ _ [(.ref b1)]))
  refine w_callV X q8_11_25 (wd_106 hw) (wd_107 hw) (nfs X.hZ (wd_109 hw)) (wd_109 hw) (wd_108 hw) (wd_40 hw) (wd_110 hw) (by decide) Bd8.1 (argsL := []) (S := []) (m_ts_17 hw hS ⟨Bd8.1, Bd8.2.1, Bd8.2.2.1, Bd8.2.2.2.1, Bd8.2.2.2.2⟩ rfl rfl) pd_29 rfl rfl rfl (by decide) (leR rfl) (by decide) (by decide) (fun T h9 v9 L9 X q9 => ?_)
  obtain ⟨r9, t9, rfl, ga9, gb9, gc9, gd9, Tx9, Kc9⟩ := q9
  have K21 : Keep h0 h9 [] := K20.trans Kc9 (fun x hx => nomatch hx)
  replace Tx9 : Lat Z h9 r9 t9 (0 : Int32) [(.int 67), (.int 97), (.int 110), (.int 110), (.int 111), (.int 116), (.int 32), (.int 100), (.int 101), (.int 112), (.int 108), (.int 111), (.int 121), (.int 32), (.int 58), (.int 32), (.int y0)] := Tx9
  show Wp _ _ _ _ (T.setTop (mkF _ _ _ [(.ref r9)]))
  have f22 := ((((((E3.keep Kc4).keep Kc5).ext Ex6).keep Kc7).keep Kc8).keep Kc9)
  have f23 := ((((((C3.keep Kc4 (ni2 ⟨n13, n33⟩)).keep Kc5 (ni2 ⟨n13, n33⟩)).ext Ex6).keep Kc7 (ni2 ⟨n13, n33⟩)).keep Kc8 (ni1 n13)).keep Kc9 (List.not_mem_nil))
  have f24 := ((((((V3.keep Kc4 (ni2 ⟨n13, n33⟩)).keep Kc5 (ni2 ⟨n13, n33⟩)).ext Ex6).keep Kc7 (ni2 ⟨n13, n33⟩)).keep Kc8 (ni1 n13)).keep Kc9 (List.not_mem_nil))
  have f25 := ((((((B3.keep Kc4 (ni2 ⟨n23, n43⟩)).keep Kc5 (ni2 ⟨n23, n43⟩)).ext Ex6).keep Kc7 (ni2 ⟨n23, n43⟩)).keep Kc8 (ni1 n23)).keep Kc9 (List.not_mem_nil))
  have f26 := ((((((N3.1.keep Kc4).keep Kc5).ext Ex6).keep Kc7).keep Kc8).keep Kc9)
  exact g_retR X Y rfl (rfl) rfl q8_11_28 (fun vm' hW => ⟨_, _, rfl, Tx9, K21, own_EtF Gs.2.1 K21 N3.2.1 (fun us hus => N6.2.2.1 _ us (by decide) hus) hW.interned_eq ((N3.2.2.2.trans N6.2.2.2).trans hW.alike) (X.hZ.alike.trans hW.alike) ⟨by decide, rfl⟩ (wd_8 hw) ⟨f22, f23, f24, f25⟩ f26⟩) (by decide) (by decide)
theorem m_msg_0_2 (hw : own_hw a0 Z) {h0 : Heap} {zc : Int32} {fm : Value} {p1 p2 t1 t2 : Addr} {y0 y1 : Int32} (hS : own_S Z zc fm) (hheld : ∀ p ∈ consts_1, Jvm.Lit.constHeld Z p.1 p.2) (hcw : Jvm.Lit.compactW.before a0 Z = true) (T1 : Lat Z h0 p1 t1 (0 : Int32) []) (T2 : Lat Z h0 p2 t2 (0 : Int32) [(.int y0), (.int y1)]) :
    DoesG l Z n0 (own_G Z h0) ⟨"com/example/inflow/inflow/model/DeploymentException", "message", "(Ljava/lang/String;Ljava/lang/String;)Ljava/lang/String;"⟩ prog_8_method_11_code 2 (some (.object "java/lang/String")) [] { frames := 6, cells := 9, slots := 152, locals := 113 } #[(.ref p1), (.ref p2)] h0 (fun v h vm => ∃ a t, v = some (.ref a) ∧ Lat Z h a t (0 : Int32) [(.int 67), (.int 97), (.int 110), (.int 110), (.int 111), (.int 116), (.int 32), (.int 100), (.int 101), (.int 112), (.int 108), (.int 111), (.int 121), (.int 32), (.int 58), (.int 32), (.int y0), (.int y1)] ∧ Keep h0 h [] ∧ Et Z "Cannot deploy " h vm) := by
  refine DoesG.start (plainFor_of_name pn_9) ?_
  obtain ⟨S_zc, hzc, S_fm, hfm⟩ := id hS
  intro p e s m below meth c T X Y hs0 Gs
  replace X : Sd _ _ _ _ _ "com/example/inflow/inflow/model/DeploymentException" "message" _ _ _ _ _ _ _ _ _ _ _ _ _ _ _ _ := X
  refine Wp.cast (g' := mkF m 0 #[.val (.ref p1), .val (.ref p2)] []) (by first | (simp [entryFrame, mkF, argsToLocals, Value.category, maxLocals]; done) | rfl) ?_
  have hZ0 := X.old.2.2
  refine w_new X q8_11_0 (wd_38 hw) (wd_39 hw) (wd_40 hw) (by decide) (by decide) (fun T h1 b1 g1 gn1 X E1 A1 D1 => ?_)
  have sz_b1 : h0.size ≤ b1 := Nat.le_trans (Keep.refl h0 []).1 (Nat.le_of_eq g1.symm)
  have K1 : Keep h0 h1 [] := (Keep.refl h0 []).ext E1
  refine w_dup X q8_11_3 rfl ?_
  refine w_callI X q8_11_4 rfl (wd_41 hw) (wd_42 hw) (wd_40 hw) (wd_43 hw) (by decide) (argsL := []) (S := [(.ref b1)]) (m_sb hw hS gn1 A1 (show Fld Z h1 b1 "java/lang/AbstractStringBuilder" "value" "[B" .null from D1 (Or.inl (wd_53 hw)) (ty := (.array .byte)) (by decide)) (show Fld Z h1 b1 "java/lang/AbstractStringBuilder" "coder" "B" (.int 0) from D1 (Or.inl (wd_55 hw)) (ty := .byte) (by decide)) (show Fld Z h1 b1 "java/lang/AbstractStringBuilder" "count" "I" (.int 0) from D1 (Or.inl (wd_79 hw)) (ty := .int) (by decide))) pd_27 rfl rfl rfl (by decide) (leR rfl) (by decide) (by decide) (fun T h2 v2 L2 X q2 => ?_)
  obtain ⟨rfl, Kc2, d2, gt2, gn2, Bd2, Ed2⟩ := q2
  have K2 : Keep h0 h2 [] := K1.trans Kc2 (fun x hx => by cases List.mem_singleton.mp hx; exact (Or.inr sz_b1))
  have sz_d2 : h0.size ≤ d2 := Nat.le_trans K1.1 gt2
  replace Bd2 : Bld Z h2 b1 d2 (0 : Int32) [(.int 0), (.int 0), (.int 0), (.int 0), (.int 0), (.int 0), (.int 0), (.int 0), (.int 0), (.int 0), (.int 0), (.int 0), (.int 0), (.int 0), (.int 0), (.int 0)] := Bd2
  show Wp _ _ _ _ (T.setTop (mkF _ _ _ [(.ref b1)]))
  refine v_ldcX X Y q8_11_7 (wd_56 hw) (own_wS hw) (by rw [hs0]; exact fun b c r => K2.2.1 b c r List.not_mem_nil) (by rw [hs0]; exact hZ0) (by rw [hs0]; exact Gs.2.1) (Gs.2.1.keep K2) (hheld _ (List.mem_of_getElem? (i := 0) rfl)) hcw [(.int 67), (.int 97), (.int 110), (.int 110), (.int 111), (.int 116), (.int 32), (.int 100), (.int 101), (.int 112), (.int 108), (.int 111), (.int 121), (.int 32)] (by decide) 56 (by decide) (by decide) (by decide) (by decide) (fun T h3 u kk a3 b3 X Y Ex3 E3 C3 V3 B3 M3 O3 L3 N3 => ?_)
  have K3 : Keep h0 h3 [] := K2.ext Ex3
  have f4 := (Bd2.1.ext Ex3)
  have n13 : a3 ≠ b1 := own_neC E3 f4 (by decide)
  have n23 : b3 ≠ b1 := Ne.symm (own_ane f4 (wd_39 hw) B3)
  have f5 := (Bd2.2.2.2.2.ext Ex3)
  have n33 : a3 ≠ d2 := own_ane E3 (wd_8 hw) f5
  have n43 : b3 ≠ d2 := own_aryNe B3 f5 (by decide)
  have f6 := (Bd2.2.1.ext Ex3)
  have f7 := (Bd2.2.2.1.ext Ex3)
  have f8 := (Bd2.2.2.2.1.ext Ex3)
  refine w_callV X q8_11_9 (wd_57 hw) (wd_58 hw) (nfs X.hZ (wd_60 hw)) (wd_60 hw) (wd_59 hw) (wd_40 hw) (wd_61 hw) (by decide) f4 (argsL := [(.ref a3)]) (S := []) (m_app hw hS gn1 gn2 ⟨f4, f6, f7, f8, f5⟩ ⟨E3, C3, V3, B3⟩ (k := (0 : Int32)) (n := (14 : Int32)) (cp := (16 : Int32)) rfl (by decide) rfl (by decide) (leR rfl)) pd_28 rfl rfl rfl (by decide) (leR rfl) (by decide) (by decide) (fun T h4 v4 L4 X q4 => ?_)
  obtain ⟨rfl, Kc4, Bd4⟩ := q4
  have K9 : Keep h0 h4 [] := K3.trans Kc4 (fun x hx => by simp only [List.mem_cons, List.not_mem_nil, or_false] at hx; rcases hx with rfl | rfl <;> first | exact (Or.inr sz_b1) | exact (Or.inr sz_d2))
  replace Bd4 : Bld Z h4 b1 d2 (14 : Int32) [(.int 67), (.int 97), (.int 110), (.int 110), (.int 111), (.int 116), (.int 32), (.int 100), (.int 101), (.int 112), (.int 108), (.int 111), (.int 121), (.int 32), (.int 0), (.int 0)] := Bd4
  show Wp _ _ _ _ (T.setTop (mkF _ _ _ [(.ref b1)]))
  refine w_aloadN X q8_11_12 rfl (rfl) ?_
  have f10 := ((((T1.ext E1).keep Kc2 (ni1 (nel (ltl T1.1.lt (Nat.le_of_eq g1.symm)))) (ni1 (nel (ltl T1.2.2.2.lt (Nat.le_of_eq g1.symm))))).ext Ex3).keep Kc4 (ni2 ⟨(nel (ltl T1.1.lt (Nat.le_of_eq g1.symm))), (nel (ltl (ltl T1.1.lt E1.1) gt2))⟩) (ni2 ⟨(nel (ltl T1.2.2.2.lt (Nat.le_of_eq g1.symm))), (nel (ltl (ltl T1.2.2.2.lt E1.1) gt2))⟩))
  refine w_callV X q8_11_13 (wd_57 hw) (wd_58 hw) (nfs X.hZ (wd_60 hw)) (wd_60 hw) (wd_59 hw) (wd_40 hw) (wd_61 hw) (by decide) Bd4.1 (argsL := [(.ref p1)]) (S := []) (m_app hw hS gn1 gn2 ⟨Bd4.1, Bd4.2.1, Bd4.2.2.1, Bd4.2.2.2.1, Bd4.2.2.2.2⟩ f10 (k := (14 : Int32)) (n := (0 : Int32)) (cp := (16 : Int32)) rfl (by decide) rfl (by decide) (leR rfl)) pd_28 rfl rfl rfl (by decide) (leR rfl) (by decide) (by decide) (fun T h5 v5 L5 X q5 => ?_)
  obtain ⟨rfl, Kc5, Bd5⟩ := q5
  have K11 : Keep h0 h5 [] := K9.trans Kc5 (fun x hx => by simp only [List.mem_cons, List.not_mem_nil, or_false] at hx; rcases hx with rfl | rfl <;> first | exact (Or.inr sz_b1) | exact (Or.inr sz_d2))
  replace Bd5 : Bld Z h5 b1 d2 (14 : Int32) [(.int 67), (.int 97), (.int 110), (.int 110), (.int 111), (.int 116), (.int 32), (.int 100), (.int 101), (.int 112), (.int 108), (.int 111), (.int 121), (.int 32), (.int 0), (.int 0)] := Bd5
  show Wp _ _ _ _ (T.setTop (mkF _ _ _ [(.ref b1)]))
  refine v_ldcX X Y q8_11_16 (wd_105 hw) (own_wS hw) (by rw [hs0]; exact fun b c r => K11.2.1 b c r List.not_mem_nil) (by rw [hs0]; exact hZ0) (by rw [hs0]; exact own_EtO Gs.2.2 (Keep.refl _ _) (fun us hus => N3.2.2.1 _ us (by decide) hus) N3.2.2.2) (own_EtO Gs.2.2 K11 (fun us hus => N3.2.2.1 _ us (by decide) hus) N3.2.2.2) (hheld _ (List.mem_of_getElem? (i := 1) rfl)) hcw [(.int 58), (.int 32)] (by decide) 8 (by decide) (by decide) (by decide) (by decide) (fun T h6 u kk a6 b6 X Y Ex6 E6 C6 V6 B6 M6 O6 L6 N6 => ?_)
  have K12 : Keep h0 h6 [] := K11.ext Ex6
  have f13 := (Bd5.1.ext Ex6)
  have f14 := (Bd5.2.1.ext Ex6)
  have f15 := (Bd5.2.2.1.ext Ex6)
  have f16 := (Bd5.2.2.2.1.ext Ex6)
  have f17 := (Bd5.2.2.2.2.ext Ex6)
  refine w_callV X q8_11_18 (wd_57 hw) (wd_58 hw) (nfs X.hZ (wd_60 hw)) (wd_60 hw) (wd_59 hw) (wd_40 hw) (wd_61 hw) (by decide) f13 (argsL := [(.ref a6)]) (S := []) (m_app hw hS gn1 gn2 ⟨f13, f14, f15, f16, f17⟩ ⟨E6, C6, V6, B6⟩ (k := (14 : Int32)) (n := (2 : Int32)) (cp := (16 : Int32)) rfl (by decide) rfl (by decide) (leR rfl)) pd_28 rfl rfl rfl (by decide) (leR rfl) (by decide) (by decide) (fun T h7 v7 L7 X q7 => ?_)
  obtain ⟨rfl, Kc7, Bd7⟩ := q7
  have K18 : Keep h0 h7 [] := K12.trans Kc7 (fun x hx => by simp only [List.mem_cons, List.not_mem_nil, or_false] at hx; rcases hx with rfl | rfl <;> first | exact (Or.inr sz_b1) | exact (Or.inr sz_d2))
  replace Bd7 : Bld Z h7 b1 d2 (16 : Int32) [(.int 67), (.int 97), (.int 110), (.int 110), (.int 111), (.int 116), (.int 32), (.int 100), (.int 101), (.int 112), (.int 108), (.int 111), (.int 121), (.int 32), (.int 58), (.int 32)] := Bd7
  show Wp _ _ _ _ (T.setTop (mkF _ _ _ [(.ref b1)]))
  refine w_aloadN X q8_11_21 rfl (rfl) ?_
  have f19 := (((((((T2.ext E1).keep Kc2 (ni1 (nel (ltl T2.1.lt (Nat.le_of_eq g1.symm)))) (ni1 (nel (ltl T2.2.2.2.lt (Nat.le_of_eq g1.symm))))).ext Ex3).keep Kc4 (ni2 ⟨(nel (ltl T2.1.lt (Nat.le_of_eq g1.symm))), (nel (ltl (ltl T2.1.lt E1.1) gt2))⟩) (ni2 ⟨(nel (ltl T2.2.2.2.lt (Nat.le_of_eq g1.symm))), (nel (ltl (ltl T2.2.2.2.lt E1.1) gt2))⟩)).keep Kc5 (ni2 ⟨(nel (ltl T2.1.lt (Nat.le_of_eq g1.symm))), (nel (ltl (ltl T2.1.lt E1.1) gt2))⟩) (ni2 ⟨(nel (ltl T2.2.2.2.lt (Nat.le_of_eq g1.symm))), (nel (ltl (ltl T2.2.2.2.lt E1.1) gt2))⟩)).ext Ex6).keep Kc7 (ni2 ⟨(nel (ltl T2.1.lt (Nat.le_of_eq g1.symm))), (nel (ltl (ltl T2.1.lt E1.1) gt2))⟩) (ni2 ⟨(nel (ltl T2.2.2.2.lt (Nat.le_of_eq g1.symm))), (nel (ltl (ltl T2.2.2.2.lt E1.1) gt2))⟩))
  refine w_callV X q8_11_22 (wd_57 hw) (wd_58 hw) (nfs X.hZ (wd_60 hw)) (wd_60 hw) (wd_59 hw) (wd_40 hw) (wd_61 hw) (by decide) Bd7.1 (argsL := [(.ref p2)]) (S := []) (m_apg_16_2 hw hS gn1 gn2 ⟨Bd7.1, Bd7.2.1, Bd7.2.2.1, Bd7.2.2.2.1, Bd7.2.2.2.2⟩ f19 rfl rfl rfl rfl) pd_28 rfl rfl rfl (by decide) (leR rfl) (by decide) (by decide) (fun T h8 v8 L8 X q8 => ?_)
  obtain ⟨rfl, Kc8, d8, gt8, gn8, Bd8, Ed8⟩ := q8
  have K20 : Keep h0 h8 [] := K18.trans Kc8 (fun x hx => by cases List.mem_singleton.mp hx; exact (Or.inr sz_b1))
  have sz_d8 : h0.size ≤ d8 := Nat.le_trans K18.1 gt8
  replace Bd8 : Bld Z h8 b1 d8 (18 : Int32) [(.int 67), (.int 97), (.int 110), (.int 110), (.int 111), (.int 116), (.int 32), (.int 100), (.int 101), (.int 112), (.int 108), (.int 111), (.int 121), (.int 32), (.int 58), (.int 32), (.int y0), (.int y1), (.int 0), (.int 0), (.int 0), (.int 0), (.int 0), (.int 0), (.int 0), (.int 0), (.int 0), (.int 0), (.int 0), (.int 0), (.int 0), (.int 0), (.int 0), (.int 0)] := Bd8
  show Wp _ _ _ _ (T.setTop (mkF _ _ _ [(.ref b1)]))
  refine w_callV X q8_11_25 (wd_106 hw) (wd_107 hw) (nfs X.hZ (wd_109 hw)) (wd_109 hw) (wd_108 hw) (wd_40 hw) (wd_110 hw) (by decide) Bd8.1 (argsL := []) (S := []) (m_ts_18 hw hS ⟨Bd8.1, Bd8.2.1, Bd8.2.2.1, Bd8.2.2.2.1, Bd8.2.2.2.2⟩ rfl rfl) pd_29 rfl rfl rfl (by decide) (leR rfl) (by decide) (by decide) (fun T h9 v9 L9 X q9 => ?_)
  obtain ⟨r9, t9, rfl, ga9, gb9, gc9, gd9, Tx9, Kc9⟩ := q9
  have K21 : Keep h0 h9 [] := K20.trans Kc9 (fun x hx => nomatch hx)
  replace Tx9 : Lat Z h9 r9 t9 (0 : Int32) [(.int 67), (.int 97), (.int 110), (.int 110), (.int 111), (.int 116), (.int 32), (.int 100), (.int 101), (.int 112), (.int 108), (.int 111), (.int 121), (.int 32), (.int 58), (.int 32), (.int y0), (.int y1)] := Tx9
  show Wp _ _ _ _ (T.setTop (mkF _ _ _ [(.ref r9)]))
  have f22 := ((((((E3.keep Kc4).keep Kc5).ext Ex6).keep Kc7).keep Kc8).keep Kc9)
  have f23 := ((((((C3.keep Kc4 (ni2 ⟨n13, n33⟩)).keep Kc5 (ni2 ⟨n13, n33⟩)).ext Ex6).keep Kc7 (ni2 ⟨n13, n33⟩)).keep Kc8 (ni1 n13)).keep Kc9 (List.not_mem_nil))
  have f24 := ((((((V3.keep Kc4 (ni2 ⟨n13, n33⟩)).keep Kc5 (ni2 ⟨n13, n33⟩)).ext Ex6).keep Kc7 (ni2 ⟨n13, n33⟩)).keep Kc8 (ni1 n13)).keep Kc9 (List.not_mem_nil))
  have f25 := ((((((B3.keep Kc4 (ni2 ⟨n23, n43⟩)).keep Kc5 (ni2 ⟨n23, n43⟩)).ext Ex6).keep Kc7 (ni2 ⟨n23, n43⟩)).keep Kc8 (ni1 n23)).keep Kc9 (List.not_mem_nil))
  have f26 := ((((((N3.1.keep Kc4).keep Kc5).ext Ex6).keep Kc7).keep Kc8).keep Kc9)
  exact g_retR X Y rfl (rfl) rfl q8_11_28 (fun vm' hW => ⟨_, _, rfl, Tx9, K21, own_EtF Gs.2.1 K21 N3.2.1 (fun us hus => N6.2.2.1 _ us (by decide) hus) hW.interned_eq ((N3.2.2.2.trans N6.2.2.2).trans hW.alike) (X.hZ.alike.trans hW.alike) ⟨by decide, rfl⟩ (wd_8 hw) ⟨f22, f23, f24, f25⟩ f26⟩) (by decide) (by decide)
theorem m_msg_0_3 (hw : own_hw a0 Z) {h0 : Heap} {zc : Int32} {fm : Value} {p1 p2 t1 t2 : Addr} {y0 y1 y2 : Int32} (hS : own_S Z zc fm) (hheld : ∀ p ∈ consts_1, Jvm.Lit.constHeld Z p.1 p.2) (hcw : Jvm.Lit.compactW.before a0 Z = true) (T1 : Lat Z h0 p1 t1 (0 : Int32) []) (T2 : Lat Z h0 p2 t2 (0 : Int32) [(.int y0), (.int y1), (.int y2)]) :
    DoesG l Z n0 (own_G Z h0) ⟨"com/example/inflow/inflow/model/DeploymentException", "message", "(Ljava/lang/String;Ljava/lang/String;)Ljava/lang/String;"⟩ prog_8_method_11_code 2 (some (.object "java/lang/String")) [] { frames := 6, cells := 9, slots := 152, locals := 113 } #[(.ref p1), (.ref p2)] h0 (fun v h vm => ∃ a t, v = some (.ref a) ∧ Lat Z h a t (0 : Int32) [(.int 67), (.int 97), (.int 110), (.int 110), (.int 111), (.int 116), (.int 32), (.int 100), (.int 101), (.int 112), (.int 108), (.int 111), (.int 121), (.int 32), (.int 58), (.int 32), (.int y0), (.int y1), (.int y2)] ∧ Keep h0 h [] ∧ Et Z "Cannot deploy " h vm) := by
  refine DoesG.start (plainFor_of_name pn_9) ?_
  obtain ⟨S_zc, hzc, S_fm, hfm⟩ := id hS
  intro p e s m below meth c T X Y hs0 Gs
  replace X : Sd _ _ _ _ _ "com/example/inflow/inflow/model/DeploymentException" "message" _ _ _ _ _ _ _ _ _ _ _ _ _ _ _ _ := X
  refine Wp.cast (g' := mkF m 0 #[.val (.ref p1), .val (.ref p2)] []) (by first | (simp [entryFrame, mkF, argsToLocals, Value.category, maxLocals]; done) | rfl) ?_
  have hZ0 := X.old.2.2
  refine w_new X q8_11_0 (wd_38 hw) (wd_39 hw) (wd_40 hw) (by decide) (by decide) (fun T h1 b1 g1 gn1 X E1 A1 D1 => ?_)
  have sz_b1 : h0.size ≤ b1 := Nat.le_trans (Keep.refl h0 []).1 (Nat.le_of_eq g1.symm)
  have K1 : Keep h0 h1 [] := (Keep.refl h0 []).ext E1
  refine w_dup X q8_11_3 rfl ?_
  refine w_callI X q8_11_4 rfl (wd_41 hw) (wd_42 hw) (wd_40 hw) (wd_43 hw) (by decide) (argsL := []) (S := [(.ref b1)]) (m_sb hw hS gn1 A1 (show Fld Z h1 b1 "java/lang/AbstractStringBuilder" "value" "[B" .null from D1 (Or.inl (wd_53 hw)) (ty := (.array .byte)) (by decide)) (show Fld Z h1 b1 "java/lang/AbstractStringBuilder" "coder" "B" (.int 0) from D1 (Or.inl (wd_55 hw)) (ty := .byte) (by decide)) (show Fld Z h1 b1 "java/lang/AbstractStringBuilder" "count" "I" (.int 0) from D1 (Or.inl (wd_79 hw)) (ty := .int) (by decide))) pd_27 rfl rfl rfl (by decide) (leR rfl) (by decide) (by decide) (fun T h2 v2 L2 X q2 => ?_)
  obtain ⟨rfl, Kc2, d2, gt2, gn2, Bd2, Ed2⟩ := q2
  have K2 : Keep h0 h2 [] := K1.trans Kc2 (fun x hx => by cases List.mem_singleton.mp hx; exact (Or.inr sz_b1))
  have sz_d2 : h0.size ≤ d2 := Nat.le_trans K1.1 gt2
  replace Bd2 : Bld Z h2 b1 d2 (0 : Int32) [(.int 0), (.int 0), (.int 0), (.int 0), (.int 0), (.int 0), (.int 0), (.int 0), (.int 0), (.int 0), (.int 0), (.int 0), (.int 0), (.int 0), (.int 0), (.int 0)] := Bd2
  show Wp _ _ _ _ (T.setTop (mkF _ _ _ [(.ref b1)]))
  refine v_ldcX X Y q8_11_7 (wd_56 hw) (own_wS hw) (by rw [hs0]; exact fun b c r => K2.2.1 b c r List.not_mem_nil) (by rw [hs0]; exact hZ0) (by rw [hs0]; exact Gs.2.1) (Gs.2.1.keep K2) (hheld _ (List.mem_of_getElem? (i := 0) rfl)) hcw [(.int 67), (.int 97), (.int 110), (.int 110), (.int 111), (.int 116), (.int 32), (.int 100), (.int 101), (.int 112), (.int 108), (.int 111), (.int 121), (.int 32)] (by decide) 56 (by decide) (by decide) (by decide) (by decide) (fun T h3 u kk a3 b3 X Y Ex3 E3 C3 V3 B3 M3 O3 L3 N3 => ?_)
  have K3 : Keep h0 h3 [] := K2.ext Ex3
  have f4 := (Bd2.1.ext Ex3)
  have n13 : a3 ≠ b1 := own_neC E3 f4 (by decide)
  have n23 : b3 ≠ b1 := Ne.symm (own_ane f4 (wd_39 hw) B3)
  have f5 := (Bd2.2.2.2.2.ext Ex3)
  have n33 : a3 ≠ d2 := own_ane E3 (wd_8 hw) f5
  have n43 : b3 ≠ d2 := own_aryNe B3 f5 (by decide)
  have f6 := (Bd2.2.1.ext Ex3)
  have f7 := (Bd2.2.2.1.ext Ex3)
  have f8 := (Bd2.2.2.2.1.ext Ex3)
  refine w_callV X q8_11_9 (wd_57 hw) (wd_58 hw) (nfs X.hZ (wd_60 hw)) (wd_60 hw) (wd_59 hw) (wd_40 hw) (wd_61 hw) (by decide) f4 (argsL := [(.ref a3)]) (S := []) (m_app hw hS gn1 gn2 ⟨f4, f6, f7, f8, f5⟩ ⟨E3, C3, V3, B3⟩ (k := (0 : Int32)) (n := (14 : Int32)) (cp := (16 : Int32)) rfl (by decide) rfl (by decide) (leR rfl)) pd_28 rfl rfl rfl (by decide) (leR rfl) (by decide) (by decide) (fun T h4 v4 L4 X q4 => ?_)
  obtain ⟨rfl, Kc4, Bd4⟩ := q4
  have K9 : Keep h0 h4 [] := K3.trans Kc4 (fun x hx => by simp only [List.mem_cons, List.not_mem_nil, or_false] at hx; rcases hx with rfl | rfl <;> first | exact (Or.inr sz_b1) | exact (Or.inr sz_d2))
  replace Bd4 : Bld Z h4 b1 d2 (14 : Int32) [(.int 67), (.int 97), (.int 110), (.int 110), (.int 111), (.int 116), (.int 32), (.int 100), (.int 101), (.int 112), (.int 108), (.int 111), (.int 121), (.int 32), (.int 0), (.int 0)] := Bd4
  show Wp _ _ _ _ (T.setTop (mkF _ _ _ [(.ref b1)]))
  refine w_aloadN X q8_11_12 rfl (rfl) ?_
  have f10 := ((((T1.ext E1).keep Kc2 (ni1 (nel (ltl T1.1.lt (Nat.le_of_eq g1.symm)))) (ni1 (nel (ltl T1.2.2.2.lt (Nat.le_of_eq g1.symm))))).ext Ex3).keep Kc4 (ni2 ⟨(nel (ltl T1.1.lt (Nat.le_of_eq g1.symm))), (nel (ltl (ltl T1.1.lt E1.1) gt2))⟩) (ni2 ⟨(nel (ltl T1.2.2.2.lt (Nat.le_of_eq g1.symm))), (nel (ltl (ltl T1.2.2.2.lt E1.1) gt2))⟩))
  refine w_callV X q8_11_13 (wd_57 hw) (wd_58 hw) (nfs X.hZ (wd_60 hw)) (wd_60 hw) (wd_59 hw) (wd_40 hw) (wd_61 hw) (by decide) Bd4.1 (argsL := [(.ref p1)]) (S := []) (m_app hw hS gn1 gn2 ⟨Bd4.1, Bd4.2.1, Bd4.2.2.1, Bd4.2.2.2.1, Bd4.2.2.2.2⟩ f10 (k := (14 : Int32)) (n := (0 : Int32)) (cp := (16 : Int32)) rfl (by decide) rfl (by decide) (leR rfl)) pd_28 rfl rfl rfl (by decide) (leR rfl) (by decide) (by decide) (fun T h5 v5 L5 X q5 => ?_)
  obtain ⟨rfl, Kc5, Bd5⟩ := q5
  have K11 : Keep h0 h5 [] := K9.trans Kc5 (fun x hx => by simp only [List.mem_cons, List.not_mem_nil, or_false] at hx; rcases hx with rfl | rfl <;> first | exact (Or.inr sz_b1) | exact (Or.inr sz_d2))
  replace Bd5 : Bld Z h5 b1 d2 (14 : Int32) [(.int 67), (.int 97), (.int 110), (.int 110), (.int 111), (.int 116), (.int 32), (.int 100), (.int 101), (.int 112), (.int 108), (.int 111), (.int 121), (.int 32), (.int 0), (.int 0)] := Bd5
  show Wp _ _ _ _ (T.setTop (mkF _ _ _ [(.ref b1)]))
  refine v_ldcX X Y q8_11_16 (wd_105 hw) (own_wS hw) (by rw [hs0]; exact fun b c r => K11.2.1 b c r List.not_mem_nil) (by rw [hs0]; exact hZ0) (by rw [hs0]; exact own_EtO Gs.2.2 (Keep.refl _ _) (fun us hus => N3.2.2.1 _ us (by decide) hus) N3.2.2.2) (own_EtO Gs.2.2 K11 (fun us hus => N3.2.2.1 _ us (by decide) hus) N3.2.2.2) (hheld _ (List.mem_of_getElem? (i := 1) rfl)) hcw [(.int 58), (.int 32)] (by decide) 8 (by decide) (by decide) (by decide) (by decide) (fun T h6 u kk a6 b6 X Y Ex6 E6 C6 V6 B6 M6 O6 L6 N6 => ?_)
  have K12 : Keep h0 h6 [] := K11.ext Ex6
  have f13 := (Bd5.1.ext Ex6)
  have f14 := (Bd5.2.1.ext Ex6)
  have f15 := (Bd5.2.2.1.ext Ex6)
  have f16 := (Bd5.2.2.2.1.ext Ex6)
  have f17 := (Bd5.2.2.2.2.ext Ex6)
  refine w_callV X q8_11_18 (wd_57 hw) (wd_58 hw) (nfs X.hZ (wd_60 hw)) (wd_60 hw) (wd_59 hw) (wd_40 hw) (wd_61 hw) (by decide) f13 (argsL := [(.ref a6)]) (S := []) (m_app hw hS gn1 gn2 ⟨f13, f14, f15, f16, f17⟩ ⟨E6, C6, V6, B6⟩ (k := (14 : Int32)) (n := (2 : Int32)) (cp := (16 : Int32)) rfl (by decide) rfl (by decide) (leR rfl)) pd_28 rfl rfl rfl (by decide) (leR rfl) (by decide) (by decide) (fun T h7 v7 L7 X q7 => ?_)
  obtain ⟨rfl, Kc7, Bd7⟩ := q7
  have K18 : Keep h0 h7 [] := K12.trans Kc7 (fun x hx => by simp only [List.mem_cons, List.not_mem_nil, or_false] at hx; rcases hx with rfl | rfl <;> first | exact (Or.inr sz_b1) | exact (Or.inr sz_d2))
  replace Bd7 : Bld Z h7 b1 d2 (16 : Int32) [(.int 67), (.int 97), (.int 110), (.int 110), (.int 111), (.int 116), (.int 32), (.int 100), (.int 101), (.int 112), (.int 108), (.int 111), (.int 121), (.int 32), (.int 58), (.int 32)] := Bd7
  show Wp _ _ _ _ (T.setTop (mkF _ _ _ [(.ref b1)]))
  refine w_aloadN X q8_11_21 rfl (rfl) ?_
  have f19 := (((((((T2.ext E1).keep Kc2 (ni1 (nel (ltl T2.1.lt (Nat.le_of_eq g1.symm)))) (ni1 (nel (ltl T2.2.2.2.lt (Nat.le_of_eq g1.symm))))).ext Ex3).keep Kc4 (ni2 ⟨(nel (ltl T2.1.lt (Nat.le_of_eq g1.symm))), (nel (ltl (ltl T2.1.lt E1.1) gt2))⟩) (ni2 ⟨(nel (ltl T2.2.2.2.lt (Nat.le_of_eq g1.symm))), (nel (ltl (ltl T2.2.2.2.lt E1.1) gt2))⟩)).keep Kc5 (ni2 ⟨(nel (ltl T2.1.lt (Nat.le_of_eq g1.symm))), (nel (ltl (ltl T2.1.lt E1.1) gt2))⟩) (ni2 ⟨(nel (ltl T2.2.2.2.lt (Nat.le_of_eq g1.symm))), (nel (ltl (ltl T2.2.2.2.lt E1.1) gt2))⟩)).ext Ex6).keep Kc7 (ni2 ⟨(nel (ltl T2.1.lt (Nat.le_of_eq g1.symm))), (nel (ltl (ltl T2.1.lt E1.1) gt2))⟩) (ni2 ⟨(nel (ltl T2.2.2.2.lt (Nat.le_of_eq g1.symm))), (nel (ltl (ltl T2.2.2.2.lt E1.1) gt2))⟩))
  refine w_callV X q8_11_22 (wd_57 hw) (wd_58 hw) (nfs X.hZ (wd_60 hw)) (wd_60 hw) (wd_59 hw) (wd_40 hw) (wd_61 hw) (by decide) Bd7.1 (argsL := [(.ref p2)]) (S := []) (m_apg_16_3 hw hS gn1 gn2 ⟨Bd7.1, Bd7.2.1, Bd7.2.2.1, Bd7.2.2.2.1, Bd7.2.2.2.2⟩ f19 rfl rfl rfl rfl) pd_28 rfl rfl rfl (by decide) (leR rfl) (by decide) (by decide) (fun T h8 v8 L8 X q8 => ?_)
  obtain ⟨rfl, Kc8, d8, gt8, gn8, Bd8, Ed8⟩ := q8
  have K20 : Keep h0 h8 [] := K18.trans Kc8 (fun x hx => by cases List.mem_singleton.mp hx; exact (Or.inr sz_b1))
  have sz_d8 : h0.size ≤ d8 := Nat.le_trans K18.1 gt8
  replace Bd8 : Bld Z h8 b1 d8 (19 : Int32) [(.int 67), (.int 97), (.int 110), (.int 110), (.int 111), (.int 116), (.int 32), (.int 100), (.int 101), (.int 112), (.int 108), (.int 111), (.int 121), (.int 32), (.int 58), (.int 32), (.int y0), (.int y1), (.int y2), (.int 0), (.int 0), (.int 0), (.int 0), (.int 0), (.int 0), (.int 0), (.int 0), (.int 0), (.int 0), (.int 0), (.int 0), (.int 0), (.int 0), (.int 0)] := Bd8
  show Wp _ _ _ _ (T.setTop (mkF _ _ _ [(.ref b1)]))
  refine w_callV X q8_11_25 (wd_106 hw) (wd_107 hw) (nfs X.hZ (wd_109 hw)) (wd_109 hw) (wd_108 hw) (wd_40 hw) (wd_110 hw) (by decide) Bd8.1 (argsL := []) (S := []) (m_ts_19 hw hS ⟨Bd8.1, Bd8.2.1, Bd8.2.2.1, Bd8.2.2.2.1, Bd8.2.2.2.2⟩ rfl rfl) pd_29 rfl rfl rfl (by decide) (leR rfl) (by decide) (by decide) (fun T h9 v9 L9 X q9 => ?_)
  obtain ⟨r9, t9, rfl, ga9, gb9, gc9, gd9, Tx9, Kc9⟩ := q9
  have K21 : Keep h0 h9 [] := K20.trans Kc9 (fun x hx => nomatch hx)
  replace Tx9 : Lat Z h9 r9 t9 (0 : Int32) [(.int 67), (.int 97), (.int 110), (.int 110), (.int 111), (.int 116), (.int 32), (.int 100), (.int 101), (.int 112), (.int 108), (.int 111), (.int 121), (.int 32), (.int 58), (.int 32), (.int y0), (.int y1), (.int y2)] := Tx9
  show Wp _ _ _ _ (T.setTop (mkF _ _ _ [(.ref r9)]))
  have f22 := ((((((E3.keep Kc4).keep Kc5).ext Ex6).keep Kc7).keep Kc8).keep Kc9)
  have f23 := ((((((C3.keep Kc4 (ni2 ⟨n13, n33⟩)).keep Kc5 (ni2 ⟨n13, n33⟩)).ext Ex6).keep Kc7 (ni2 ⟨n13, n33⟩)).keep Kc8 (ni1 n13)).keep Kc9 (List.not_mem_nil))
  have f24 := ((((((V3.keep Kc4 (ni2 ⟨n13, n33⟩)).keep Kc5 (ni2 ⟨n13, n33⟩)).ext Ex6).keep Kc7 (ni2 ⟨n13, n33⟩)).keep Kc8 (ni1 n13)).keep Kc9 (List.not_mem_nil))
  have f25 := ((((((B3.keep Kc4 (ni2 ⟨n23, n43⟩)).keep Kc5 (ni2 ⟨n23, n43⟩)).ext Ex6).keep Kc7 (ni2 ⟨n23, n43⟩)).keep Kc8 (ni1 n23)).keep Kc9 (List.not_mem_nil))
  have f26 := ((((((N3.1.keep Kc4).keep Kc5).ext Ex6).keep Kc7).keep Kc8).keep Kc9)
  exact g_retR X Y rfl (rfl) rfl q8_11_28 (fun vm' hW => ⟨_, _, rfl, Tx9, K21, own_EtF Gs.2.1 K21 N3.2.1 (fun us hus => N6.2.2.1 _ us (by decide) hus) hW.interned_eq ((N3.2.2.2.trans N6.2.2.2).trans hW.alike) (X.hZ.alike.trans hW.alike) ⟨by decide, rfl⟩ (wd_8 hw) ⟨f22, f23, f24, f25⟩ f26⟩) (by decide) (by decide)
theorem m_msg_1_0 (hw : own_hw a0 Z) {h0 : Heap} {zc : Int32} {fm : Value} {p1 p2 t1 t2 : Addr} {x0 : Int32} (hS : own_S Z zc fm) (hheld : ∀ p ∈ consts_1, Jvm.Lit.constHeld Z p.1 p.2) (hcw : Jvm.Lit.compactW.before a0 Z = true) (T1 : Lat Z h0 p1 t1 (0 : Int32) [(.int x0)]) (T2 : Lat Z h0 p2 t2 (0 : Int32) []) :
    DoesG l Z n0 (own_G Z h0) ⟨"com/example/inflow/inflow/model/DeploymentException", "message", "(Ljava/lang/String;Ljava/lang/String;)Ljava/lang/String;"⟩ prog_8_method_11_code 2 (some (.object "java/lang/String")) [] { frames := 6, cells := 9, slots := 152, locals := 113 } #[(.ref p1), (.ref p2)] h0 (fun v h vm => ∃ a t, v = some (.ref a) ∧ Lat Z h a t (0 : Int32) [(.int 67), (.int 97), (.int 110), (.int 110), (.int 111), (.int 116), (.int 32), (.int 100), (.int 101), (.int 112), (.int 108), (.int 111), (.int 121), (.int 32), (.int x0), (.int 58), (.int 32)] ∧ Keep h0 h [] ∧ Et Z "Cannot deploy " h vm) := by
  refine DoesG.start (plainFor_of_name pn_9) ?_
  obtain ⟨S_zc, hzc, S_fm, hfm⟩ := id hS
  intro p e s m below meth c T X Y hs0 Gs
  replace X : Sd _ _ _ _ _ "com/example/inflow/inflow/model/DeploymentException" "message" _ _ _ _ _ _ _ _ _ _ _ _ _ _ _ _ := X
  refine Wp.cast (g' := mkF m 0 #[.val (.ref p1), .val (.ref p2)] []) (by first | (simp [entryFrame, mkF, argsToLocals, Value.category, maxLocals]; done) | rfl) ?_
  have hZ0 := X.old.2.2
  refine w_new X q8_11_0 (wd_38 hw) (wd_39 hw) (wd_40 hw) (by decide) (by decide) (fun T h1 b1 g1 gn1 X E1 A1 D1 => ?_)
  have sz_b1 : h0.size ≤ b1 := Nat.le_trans (Keep.refl h0 []).1 (Nat.le_of_eq g1.symm)
  have K1 : Keep h0 h1 [] := (Keep.refl h0 []).ext E1
  refine w_dup X q8_11_3 rfl ?_
  refine w_callI X q8_11_4 rfl (wd_41 hw) (wd_42 hw) (wd_40 hw) (wd_43 hw) (by decide) (argsL := []) (S := [(.ref b1)]) (m_sb hw hS gn1 A1 (show Fld Z h1 b1 "java/lang/AbstractStringBuilder" "value" "[B" .null from D1 (Or.inl (wd_53 hw)) (ty := (.array .byte)) (by decide)) (show Fld Z h1 b1 "java/lang/AbstractStringBuilder" "coder" "B" (.int 0) from D1 (Or.inl (wd_55 hw)) (ty := .byte) (by decide)) (show Fld Z h1 b1 "java/lang/AbstractStringBuilder" "count" "I" (.int 0) from D1 (Or.inl (wd_79 hw)) (ty := .int) (by decide))) pd_27 rfl rfl rfl (by decide) (leR rfl) (by decide) (by decide) (fun T h2 v2 L2 X q2 => ?_)
  obtain ⟨rfl, Kc2, d2, gt2, gn2, Bd2, Ed2⟩ := q2
  have K2 : Keep h0 h2 [] := K1.trans Kc2 (fun x hx => by cases List.mem_singleton.mp hx; exact (Or.inr sz_b1))
  have sz_d2 : h0.size ≤ d2 := Nat.le_trans K1.1 gt2
  replace Bd2 : Bld Z h2 b1 d2 (0 : Int32) [(.int 0), (.int 0), (.int 0), (.int 0), (.int 0), (.int 0), (.int 0), (.int 0), (.int 0), (.int 0), (.int 0), (.int 0), (.int 0), (.int 0), (.int 0), (.int 0)] := Bd2
  show Wp _ _ _ _ (T.setTop (mkF _ _ _ [(.ref b1)]))
  refine v_ldcX X Y q8_11_7 (wd_56 hw) (own_wS hw) (by rw [hs0]; exact fun b c r => K2.2.1 b c r List.not_mem_nil) (by rw [hs0]; exact hZ0) (by rw [hs0]; exact Gs.2.1) (Gs.2.1.keep K2) (hheld _ (List.mem_of_getElem? (i := 0) rfl)) hcw [(.int 67), (.int 97), (.int 110), (.int 110), (.int 111), (.int 116), (.int 32), (.int 100), (.int 101), (.int 112), (.int 108), (.int 111), (.int 121), (.int 32)] (by decide) 56 (by decide) (by decide) (by decide) (by decide) (fun T h3 u kk a3 b3 X Y Ex3 E3 C3 V3 B3 M3 O3 L3 N3 => ?_)
  have K3 : Keep h0 h3 [] := K2.ext Ex3
  have f4 := (Bd2.1.ext Ex3)
  have n13 : a3 ≠ b1 := own_neC E3 f4 (by decide)
  have n23 : b3 ≠ b1 := Ne.symm (own_ane f4 (wd_39 hw) B3)
  have f5 := (Bd2.2.2.2.2.ext Ex3)
  have n33 : a3 ≠ d2 := own_ane E3 (wd_8 hw) f5
  have n43 : b3 ≠ d2 := own_aryNe B3 f5 (by decide)
  have f6 := (Bd2.2.1.ext Ex3)
  have f7 := (Bd2.2.2.1.ext Ex3)
  have f8 := (Bd2.2.2.2.1.ext Ex3)
  refine w_callV X q8_11_9 (wd_57 hw) (wd_58 hw) (nfs X.hZ (wd_60 hw)) (wd_60 hw) (wd_59 hw) (wd_40 hw) (wd_61 hw) (by decide) f4 (argsL := [(.ref a3)]) (S := []) (m_app hw hS gn1 gn2 ⟨f4, f6, f7, f8, f5⟩ ⟨E3, C3, V3, B3⟩ (k := (0 : Int32)) (n := (14 : Int32)) (cp := (16 : Int32)) rfl (by decide) rfl (by decide) (leR rfl)) pd_28 rfl rfl rfl (by decide) (leR rfl) (by decide) (by decide) (fun T h4 v4 L4 X q4 => ?_)
  obtain ⟨rfl, Kc4, Bd4⟩ := q4
  have K9 : Keep h0 h4 [] := K3.trans Kc4 (fun x hx => by simp only [List.mem_cons, List.not_mem_nil, or_false] at hx; rcases hx with rfl | rfl <;> first | exact (Or.inr sz_b1) | exact (Or.inr sz_d2))
  replace Bd4 : Bld Z h4 b1 d2 (14 : Int32) [(.int 67), (.int 97), (.int 110), (.int 110), (.int 111), (.int 116), (.int 32), (.int 100), (.int 101), (.int 112), (.int 108), (.int 111), (.int 121), (.int 32), (.int 0), (.int 0)] := Bd4
  show Wp _ _ _ _ (T.setTop (mkF _ _ _ [(.ref b1)]))
  refine w_aloadN X q8_11_12 rfl (rfl) ?_
  have f10 := ((((T1.ext E1).keep Kc2 (ni1 (nel (ltl T1.1.lt (Nat.le_of_eq g1.symm)))) (ni1 (nel (ltl T1.2.2.2.lt (Nat.le_of_eq g1.symm))))).ext Ex3).keep Kc4 (ni2 ⟨(nel (ltl T1.1.lt (Nat.le_of_eq g1.symm))), (nel (ltl (ltl T1.1.lt E1.1) gt2))⟩) (ni2 ⟨(nel (ltl T1.2.2.2.lt (Nat.le_of_eq g1.symm))), (nel (ltl (ltl T1.2.2.2.lt E1.1) gt2))⟩))
  refine w_callV X q8_11_13 (wd_57 hw) (wd_58 hw) (nfs X.hZ (wd_60 hw)) (wd_60 hw) (wd_59 hw) (wd_40 hw) (wd_61 hw) (by decide) Bd4.1 (argsL := [(.ref p1)]) (S := []) (m_app hw hS gn1 gn2 ⟨Bd4.1, Bd4.2.1, Bd4.2.2.1, Bd4.2.2.2.1, Bd4.2.2.2.2⟩ f10 (k := (14 : Int32)) (n := (1 : Int32)) (cp := (16 : Int32)) rfl (by decide) rfl (by decide) (leR rfl)) pd_28 rfl rfl rfl (by decide) (leR rfl) (by decide) (by decide) (fun T h5 v5 L5 X q5 => ?_)
  obtain ⟨rfl, Kc5, Bd5⟩ := q5
  have K11 : Keep h0 h5 [] := K9.trans Kc5 (fun x hx => by simp only [List.mem_cons, List.not_mem_nil, or_false] at hx; rcases hx with rfl | rfl <;> first | exact (Or.inr sz_b1) | exact (Or.inr sz_d2))
  replace Bd5 : Bld Z h5 b1 d2 (15 : Int32) [(.int 67), (.int 97), (.int 110), (.int 110), (.int 111), (.int 116), (.int 32), (.int 100), (.int 101), (.int 112), (.int 108), (.int 111), (.int 121), (.int 32), (.int x0), (.int 0)] := Bd5
  show Wp _ _ _ _ (T.setTop (mkF _ _ _ [(.ref b1)]))
  refine v_ldcX X Y q8_11_16 (wd_105 hw) (own_wS hw) (by rw [hs0]; exact fun b c r => K11.2.1 b c r List.not_mem_nil) (by rw [hs0]; exact hZ0) (by rw [hs0]; exact own_EtO Gs.2.2 (Keep.refl _ _) (fun us hus => N3.2.2.1 _ us (by decide) hus) N3.2.2.2) (own_EtO Gs.2.2 K11 (fun us hus => N3.2.2.1 _ us (by decide) hus) N3.2.2.2) (hheld _ (List.mem_of_getElem? (i := 1) rfl)) hcw [(.int 58), (.int 32)] (by decide) 8 (by decide) (by decide) (by decide) (by decide) (fun T h6 u kk a6 b6 X Y Ex6 E6 C6 V6 B6 M6 O6 L6 N6 => ?_)
  have K12 : Keep h0 h6 [] := K11.ext Ex6
  have f13 := (Bd5.1.ext Ex6)
  have f14 := (Bd5.2.1.ext Ex6)
  have f15 := (Bd5.2.2.1.ext Ex6)
  have f16 := (Bd5.2.2.2.1.ext Ex6)
  have f17 := (Bd5.2.2.2.2.ext Ex6)
  refine w_callV X q8_11_18 (wd_57 hw) (wd_58 hw) (nfs X.hZ (wd_60 hw)) (wd_60 hw) (wd_59 hw) (wd_40 hw) (wd_61 hw) (by decide) f13 (argsL := [(.ref a6)]) (S := []) (m_apg_15_2 hw hS gn1 gn2 ⟨f13, f14, f15, f16, f17⟩ ⟨E6, C6, V6, B6⟩ rfl rfl rfl rfl) pd_28 rfl rfl rfl (by decide) (leR rfl) (by decide) (by decide) (fun T h7 v7 L7 X q7 => ?_)
  obtain ⟨rfl, Kc7, d7, gt7, gn7, Bd7, Ed7⟩ := q7
  have K18 : Keep h0 h7 [] := K12.trans Kc7 (fun x hx => by cases List.mem_singleton.mp hx; exact (Or.inr sz_b1))
  have sz_d7 : h0.size ≤ d7 := Nat.le_trans K12.1 gt7
  replace Bd7 : Bld Z h7 b1 d7 (17 : Int32) [(.int 67), (.int 97), (.int 110), (.int 110), (.int 111), (.int 116), (.int 32), (.int 100), (.int 101), (.int 112), (.int 108), (.int 111), (.int 121), (.int 32), (.int x0), (.int 58), (.int 32), (.int 0), (.int 0), (.int 0), (.int 0), (.int 0), (.int 0), (.int 0), (.int 0), (.int 0), (.int 0), (.int 0), (.int 0), (.int 0), (.int 0), (.int 0), (.int 0), (.int 0)] := Bd7
  show Wp _ _ _ _ (T.setTop (mkF _ _ _ [(.ref b1)]))
  refine w_aloadN X q8_11_21 rfl (rfl) ?_
  have f19 := (((((((T2.ext E1).keep Kc2 (ni1 (nel (ltl T2.1.lt (Nat.le_of_eq g1.symm)))) (ni1 (nel (ltl T2.2.2.2.lt (Nat.le_of_eq g1.symm))))).ext Ex3).keep Kc4 (ni2 ⟨(nel (ltl T2.1.lt (Nat.le_of_eq g1.symm))), (nel (ltl (ltl T2.1.lt E1.1) gt2))⟩) (ni2 ⟨(nel (ltl T2.2.2.2.lt (Nat.le_of_eq g1.symm))), (nel (ltl (ltl T2.2.2.2.lt E1.1) gt2))⟩)).keep Kc5 (ni2 ⟨(nel (ltl T2.1.lt (Nat.le_of_eq g1.symm))), (nel (ltl (ltl T2.1.lt E1.1) gt2))⟩) (ni2 ⟨(nel (ltl T2.2.2.2.lt (Nat.le_of_eq g1.symm))), (nel (ltl (ltl T2.2.2.2.lt E1.1) gt2))⟩)).ext Ex6).keep Kc7 (ni1 (nel (ltl T2.1.lt (Nat.le_of_eq g1.symm)))) (ni1 (nel (ltl T2.2.2.2.lt (Nat.le_of_eq g1.symm)))))
  refine w_callV X q8_11_22 (wd_57 hw) (wd_58 hw) (nfs X.hZ (wd_60 hw)) (wd_60 hw) (wd_59 hw) (wd_40 hw) (wd_61 hw) (by decide) Bd7.1 (argsL := [(.ref p2)]) (S := []) (m_app hw hS gn1 gn7 ⟨Bd7.1, Bd7.2.1, Bd7.2.2.1, Bd7.2.2.2.1, Bd7.2.2.2.2⟩ f19 (k := (17 : Int32)) (n := (0 : Int32)) (cp := (34 : Int32)) rfl (by decide) rfl (by decide) (leR rfl)) pd_28 rfl rfl rfl (by decide) (leR rfl) (by decide) (by decide) (fun T h8 v8 L8 X q8 => ?_)
  obtain ⟨rfl, Kc8, Bd8⟩ := q8
  have K20 : Keep h0 h8 [] := K18.trans Kc8 (fun x hx => by simp only [List.mem_cons, List.not_mem_nil, or_false] at hx; rcases hx with rfl | rfl <;> first | exact (Or.inr sz_b1) | exact (Or.inr sz_d7))
  replace Bd8 : Bld Z h8 b1 d7 (17 : Int32) [(.int 67), (.int 97), (.int 110), (.int 110), (.int 111), (.int 116), (.int 32), (.int 100), (.int 101), (.int 112), (.int 108), (.int 111), (.int 121), (.int 32), (.int x0), (.int 58), (.int 32), (.int 0), (.int 0), (.int 0), (.int 0), (.int 0), (.int 0), (.int 0), (.int 0), (.int 0), (.int 0), (.int 0), (.int 0), (.int 0), (.int 0), (.int 0), (.int 0), (.int 0)] := Bd8
  show Wp _ _ _ _ (T.setTop (mkF _ _ _ [(.ref b1)]))
  refine w_callV X q8_11_25 (wd_106 hw) (wd_107 hw) (nfs X.hZ (wd_109 hw)) (wd_109 hw) (wd_108 hw) (wd_40 hw) (wd_110 hw) (by decide) Bd8.1 (argsL := []) (S := []) (m_ts_17 hw hS ⟨Bd8.1, Bd8.2.1, Bd8.2.2.1, Bd8.2.2.2.1, Bd8.2.2.2.2⟩ rfl rfl) pd_29 rfl rfl rfl (by decide) (leR rfl) (by decide) (by decide) (fun T h9 v9 L9 X q9 => ?_)
  obtain ⟨r9, t9, rfl, ga9, gb9, gc9, gd9, Tx9, Kc9⟩ := q9
  have K21 : Keep h0 h9 [] := K20.trans Kc9 (fun x hx => nomatch hx)
  replace Tx9 : Lat Z h9 r9 t9 (0 : Int32) [(.int 67), (.int 97), (.int 110), (.int 110), (.int 111), (.int 116), (.int 32), (.int 100), (.int 101), (.int 112), (.int 108), (.int 111), (.int 121), (.int 32), (.int x0), (.int 58), (.int 32)] := Tx9
  show Wp _ _ _ _ (T.setTop (mkF _ _ _ [(.ref r9)]))
  have f22 := ((((((E3.keep Kc4).keep Kc5).ext Ex6).keep Kc7).keep Kc8).keep Kc9)
  have f23 := ((((((C3.keep Kc4 (ni2 ⟨n13, n33⟩)).keep Kc5 (ni2 ⟨n13, n33⟩)).ext Ex6).keep Kc7 (ni1 n13)).keep Kc8 (ni2 ⟨n13, (nel (ltl (ltl (ltl (ltl E3.lt Kc4.1) Kc5.1) Ex6.1) gt7))⟩)).keep Kc9 (List.not_mem_nil))
  have f24 := ((((((V3.keep Kc4 (ni2 ⟨n13, n33⟩)).keep Kc5 (ni2 ⟨n13, n33⟩)).ext Ex6).keep Kc7 (ni1 n13)).keep Kc8 (ni2 ⟨n13, (nel (ltl (ltl (ltl (ltl E3.lt Kc4.1) Kc5.1) Ex6.1) gt7))⟩)).keep Kc9 (List.not_mem_nil))
  have f25 := ((((((B3.keep Kc4 (ni2 ⟨n23, n43⟩)).keep Kc5 (ni2 ⟨n23, n43⟩)).ext Ex6).keep Kc7 (ni1 n23)).keep Kc8 (ni2 ⟨n23, (nel (ltl (ltl (ltl (ltl B3.lt Kc4.1) Kc5.1) Ex6.1) gt7))⟩)).keep Kc9 (List.not_mem_nil))
  have f26 := ((((((N3.1.keep Kc4).keep Kc5).ext Ex6).keep Kc7).keep Kc8).keep Kc9)
  exact g_retR X Y rfl (rfl) rfl q8_11_28 (fun vm' hW => ⟨_, _, rfl, Tx9, K21, own_EtF Gs.2.1 K21 N3.2.1 (fun us hus => N6.2.2.1 _ us (by decide) hus) hW.interned_eq ((N3.2.2.2.trans N6.2.2.2).trans hW.alike) (X.hZ.alike.trans hW.alike) ⟨by decide, rfl⟩ (wd_8 hw) ⟨f22, f23, f24, f25⟩ f26⟩) (by decide) (by decide)
theorem m_msg_1_1 (hw : own_hw a0 Z) {h0 : Heap} {zc : Int32} {fm : Value} {p1 p2 t1 t2 : Addr} {x0 y0 : Int32} (hS : own_S Z zc fm) (hheld : ∀ p ∈ consts_1, Jvm.Lit.constHeld Z p.1 p.2) (hcw : Jvm.Lit.compactW.before a0 Z = true) (T1 : Lat Z h0 p1 t1 (0 : Int32) [(.int x0)]) (T2 : Lat Z h0 p2 t2 (0 : Int32) [(.int y0)]) :
    DoesG l Z n0 (own_G Z h0) ⟨"com/example/inflow/inflow/model/DeploymentException", "message", "(Ljava/lang/String;Ljava/lang/String;)Ljava/lang/String;"⟩ prog_8_method_11_code 2 (some (.object "java/lang/String")) [] { frames := 6, cells := 9, slots := 152, locals := 113 } #[(.ref p1), (.ref p2)] h0 (fun v h vm => ∃ a t, v = some (.ref a) ∧ Lat Z h a t (0 : Int32) [(.int 67), (.int 97), (.int 110), (.int 110), (.int 111), (.int 116), (.int 32), (.int 100), (.int 101), (.int 112), (.int 108), (.int 111), (.int 121), (.int 32), (.int x0), (.int 58), (.int 32), (.int y0)] ∧ Keep h0 h [] ∧ Et Z "Cannot deploy " h vm) := by
  refine DoesG.start (plainFor_of_name pn_9) ?_
  obtain ⟨S_zc, hzc, S_fm, hfm⟩ := id hS
  intro p e s m below meth c T X Y hs0 Gs
  replace X : Sd _ _ _ _ _ "com/example/inflow/inflow/model/DeploymentException" "message" _ _ _ _ _ _ _ _ _ _ _ _ _ _ _ _ := X
  refine Wp.cast (g' := mkF m 0 #[.val (.ref p1), .val (.ref p2)] []) (by first | (simp [entryFrame, mkF, argsToLocals, Value.category, maxLocals]; done) | rfl) ?_
  have hZ0 := X.old.2.2
  refine w_new X q8_11_0 (wd_38 hw) (wd_39 hw) (wd_40 hw) (by decide) (by decide) (fun T h1 b1 g1 gn1 X E1 A1 D1 => ?_)
  have sz_b1 : h0.size ≤ b1 := Nat.le_trans (Keep.refl h0 []).1 (Nat.le_of_eq g1.symm)
  have K1 : Keep h0 h1 [] := (Keep.refl h0 []).ext E1
  refine w_dup X q8_11_3 rfl ?_
  refine w_callI X q8_11_4 rfl (wd_41 hw) (wd_42 hw) (wd_40 hw) (wd_43 hw) (by decide) (argsL := []) (S := [(.ref b1)]) (m_sb hw hS gn1 A1 (show Fld Z h1 b1 "java/lang/AbstractStringBuilder" "value" "[B" .null from D1 (Or.inl (wd_53 hw)) (ty := (.array .byte)) (by decide)) (show Fld Z h1 b1 "java/lang/AbstractStringBuilder" "coder" "B" (.int 0) from D1 (Or.inl (wd_55 hw)) (ty := .byte) (by decide)) (show Fld Z h1 b1 "java/lang/AbstractStringBuilder" "count" "I" (.int 0) from D1 (Or.inl (wd_79 hw)) (ty := .int) (by decide))) pd_27 rfl rfl rfl (by decide) (leR rfl) (by decide) (by decide) (fun T h2 v2 L2 X q2 => ?_)
  obtain ⟨rfl, Kc2, d2, gt2, gn2, Bd2, Ed2⟩ := q2
  have K2 : Keep h0 h2 [] := K1.trans Kc2 (fun x hx => by cases List.mem_singleton.mp hx; exact (Or.inr sz_b1))
  have sz_d2 : h0.size ≤ d2 := Nat.le_trans K1.1 gt2
  replace Bd2 : Bld Z h2 b1 d2 (0 : Int32) [(.int 0), (.int 0), (.int 0), (.int 0), (.int 0), (.int 0), (.int 0), (.int 0), (.int 0), (.int 0), (.int 0), (.int 0), (.int 0), (.int 0), (.int 0), (.int 0)] := Bd2
  show Wp _ _ _ _ (T.setTop (mkF _ _ _ [(.ref b1)]))
  refine v_ldcX X Y q8_11_7 (wd_56 hw) (own_wS hw) (by rw [hs0]; exact fun b c r => K2.2.1 b c r List.not_mem_nil) (by rw [hs0]; exact hZ0) (by rw [hs0]; exact Gs.2.1) (Gs.2.1.keep K2) (hheld _ (List.mem_of_getElem? (i := 0) rfl)) hcw [(.int 67), (.int 97), (.int 110), (.int 110), (.int 111), (.int 116), (.int 32), (.int 100), (.int 101), (.int 112), (.int 108), (.int 111), (.int 121), (.int 32)] (by decide) 56 (by decide) (by decide) (by decide) (by decide) (fun T h3 u kk a3 b3 X Y Ex3 E3 C3 V3 B3 M3 O3 L3 N3 => ?_)
  have K3 : Keep h0 h3 [] := K2.ext Ex3
  have f4 := (Bd2.1.ext Ex3)
  have n13 : a3 ≠ b1 := own_neC E3 f4 (by decide)
  have n23 : b3 ≠ b1 := Ne.symm (own_ane f4 (wd_39 hw) B3)
  have f5 := (Bd2.2.2.2.2.ext Ex3)
  have n33 : a3 ≠ d2 := own_ane E3 (wd_8 hw) f5
  have n43 : b3 ≠ d2 := own_aryNe B3 f5 (by decide)
  have f6 := (Bd2.2.1.ext Ex3)
  have f7 := (Bd2.2.2.1.ext Ex3)
  have f8 := (Bd2.2.2.2.1.ext Ex3)
  refine w_callV X q8_11_9 (wd_57 hw) (wd_58 hw) (nfs X.hZ (wd_60 hw)) (wd_60 hw) (wd_59 hw) (wd_40 hw) (wd_61 hw) (by decide) f4 (argsL := [(.ref a3)]) (S := []) (m_app hw hS gn1 gn2 ⟨f4, f6, f7, f8, f5⟩ ⟨E3, C3, V3, B3⟩ (k := (0 : Int32)) (n := (14 : Int32)) (cp := (16 : Int32)) rfl (by decide) rfl (by decide) (leR rfl)) pd_28 rfl rfl rfl (by decide) (leR rfl) (by decide) (by decide) (fun T h4 v4 L4 X q4 => ?_)
  obtain ⟨rfl, Kc4, Bd4⟩ := q4
  have K9 : Keep h0 h4 [] := K3.trans Kc4 (fun x hx => by simp only [List.mem_cons, List.not_mem_nil, or_false] at hx; rcases hx with rfl | rfl <;> first | exact (Or.inr sz_b1) | exact (Or.inr sz_d2))
  replace Bd4 : Bld Z h4 b1 d2 (14 : Int32) [(.int 67), (.int 97), (.int 110), (.int 110), (.int 111), (.int 116), (.int 32), (.int 100), (.int 101), (.int 112), (.int 108), (.int 111), (.int 121), (.int 32), (.int 0), (.int 0)] := Bd4
  show Wp _ _ _ _ (T.setTop (mkF _ _ _ [(.ref b1)]))
  refine w_aloadN X q8_11_12 rfl (rfl) ?_
  have f10 := ((((T1.ext E1).keep Kc2 (ni1 (nel (ltl T1.1.lt (Nat.le_of_eq g1.symm)))) (ni1 (nel (ltl T1.2.2.2.lt (Nat.le_of_eq g1.symm))))).ext Ex3).keep Kc4 (ni2 ⟨(nel (ltl T1.1.lt (Nat.le_of_eq g1.symm))), (nel (ltl (ltl T1.1.lt E1.1) gt2))⟩) (ni2 ⟨(nel (ltl T1.2.2.2.lt (Nat.le_of_eq g1.symm))), (nel (ltl (ltl T1.2.2.2.lt E1.1) gt2))⟩))
  refine w_callV X q8_11_13 (wd_57 hw) (wd_58 hw) (nfs X.hZ (wd_60 hw)) (wd_60 hw) (wd_59 hw) (wd_40 hw) (wd_61 hw) (by decide) Bd4.1 (argsL := [(.ref p1)]) (S := []) (m_app hw hS gn1 gn2 ⟨Bd4.1, Bd4.2.1, Bd4.2.2.1, Bd4.2.2.2.1, Bd4.2.2.2.2⟩ f10 (k := (14 : Int32)) (n := (1 : Int32)) (cp := (16 : Int32)) rfl (by decide) rfl (by decide) (leR rfl)) pd_28 rfl rfl rfl (by decide) (leR rfl) (by decide) (by decide) (fun T h5 v5 L5 X q5 => ?_)
  obtain ⟨rfl, Kc5, Bd5⟩ := q5
  have K11 : Keep h0 h5 [] := K9.trans Kc5 (fun x hx => by simp only [List.mem_cons, List.not_mem_nil, or_false] at hx; rcases hx with rfl | rfl <;> first | exact (Or.inr sz_b1) | exact (Or.inr sz_d2))
  replace Bd5 : Bld Z h5 b1 d2 (15 : Int32) [(.int 67), (.int 97), (.int 110), (.int 110), (.int 111), (.int 116), (.int 32), (.int 100), (.int 101), (.int 112), (.int 108), (.int 111), (.int 121), (.int 32), (.int x0), (.int 0)] := Bd5
  show Wp _ _ _ _ (T.setTop (mkF _ _ _ [(.ref b1)]))
  refine v_ldcX X Y q8_11_16 (wd_105 hw) (own_wS hw) (by rw [hs0]; exact fun b c r => K11.2.1 b c r List.not_mem_nil) (by rw [hs0]; exact hZ0) (by rw [hs0]; exact own_EtO Gs.2.2 (Keep.refl _ _) (fun us hus => N3.2.2.1 _ us (by decide) hus) N3.2.2.2) (own_EtO Gs.2.2 K11 (fun us hus => N3.2.2.1 _ us (by decide) hus) N3.2.2.2) (hheld _ (List.mem_of_getElem? (i := 1) rfl)) hcw [(.int 58), (.int 32)] (by decide) 8 (by decide) (by decide) (by decide) (by decide) (fun T h6 u kk a6 b6 X Y Ex6 E6 C6 V6 B6 M6 O6 L6 N6 => ?_)
  have K12 : Keep h0 h6 [] := K11.ext Ex6
  have f13 := (Bd5.1.ext Ex6)
  have f14 := (Bd5.2.1.ext Ex6)
  have f15 := (Bd5.2.2.1.ext Ex6)
  have f16 := (Bd5.2.2.2.1.ext Ex6)
  have f17 := (Bd5.2.2.2.2.ext Ex6)
  refine w_callV X q8_11_18 (wd_57 hw) (wd_58 hw) (nfs X.hZ (wd_60 hw)) (wd_60 hw) (wd_59 hw) (wd_40 hw) (wd_61 hw) (by decide) f13 (argsL := [(.ref a6)]) (S := []) (m_apg_15_2 hw hS gn1 gn2 ⟨f13, f14, f15, f16, f17⟩ ⟨E6, C6, V6, B6⟩ rfl rfl rfl rfl) pd_28 rfl rfl rfl (by decide) (leR rfl) (by decide) (by decide) (fun T h7 v7 L7 X q7 => ?_)
  obtain ⟨rfl, Kc7, d7, gt7, gn7, Bd7, Ed7⟩ := q7
  have K18 : Keep h0 h7 [] := K12.trans Kc7 (fun x hx => by cases List.mem_singleton.mp hx; exact (Or.inr sz_b1))
  have sz_d7 : h0.size ≤ d7 := Nat.le_trans K12.1 gt7
  replace Bd7 : Bld Z h7 b1 d7 (17 : Int32) [(.int 67), (.int 97), (.int 110), (.int 110), (.int 111), (.int 116), (.int 32), (.int 100), (.int 101), (.int 112), (.int 108), (.int 111), (.int 121), (.int 32), (.int x0), (.int 58), (.int 32), (.int 0), (.int 0), (.int 0), (.int 0), (.int 0), (.int 0), (.int 0), (.int 0), (.int 0), (.int 0), (.int 0), (.int 0), (.int 0), (.int 0), (.int 0), (.int 0), (.int 0)] := Bd7
  show Wp _ _ _ _ (T.setTop (mkF _ _ _ [(.ref b1)]))
  refine w_aloadN X q8_11_21 rfl (rfl) ?_
  have f19 := (((((((T2.ext E1).keep Kc2 (ni1 (nel (ltl T2.1.lt (Nat.le_of_eq g1.symm)))) (ni1 (nel (ltl T2.2.2.2.lt (Nat.le_of_eq g1.symm))))).ext Ex3).keep Kc4 (ni2 ⟨(nel (ltl T2.1.lt (Nat.le_of_eq g1.symm))), (nel (ltl (ltl T2.1.lt E1.1) gt2))⟩) (ni2 ⟨(nel (ltl T2.2.2.2.lt (Nat.le_of_eq g1.symm))), (nel (ltl (ltl T2.2.2.2.lt E1.1) gt2))⟩)).keep Kc5 (ni2 ⟨(nel (ltl T2.1.lt (Nat.le_of_eq g1.symm))), (nel (ltl (ltl T2.1.lt E1.1) gt2))⟩) (ni2 ⟨(nel (ltl T2.2.2.2.lt (Nat.le_of_eq g1.symm))), (nel (ltl (ltl T2.2.2.2.lt E1.1) gt2))⟩)).ext Ex6).keep Kc7 (ni1 (nel (ltl T2.1.lt (Nat.le_of_eq g1.symm)))) (ni1 (nel (ltl T2.2.2.2.lt (Nat.le_of_eq g1.symm)))))
  refine w_callV X q8_11_22 (wd_57 hw) (wd_58 hw) (nfs X.hZ (wd_60 hw)) (wd_60 hw) (wd_59 hw) (wd_40 hw) (wd_61 hw) (by decide) Bd7.1 (argsL := [(.ref p2)]) (S := []) (m_app hw hS gn1 gn7 ⟨Bd7.1, Bd7.2.1, Bd7.2.2.1, Bd7.2.2.2.1, Bd7.2.2.2.2⟩ f19 (k := (17 : Int32)) (n := (1 : Int32)) (cp := (34 : Int32)) rfl (by decide) rfl (by decide) (leR rfl)) pd_28 rfl rfl rfl (by decide) (leR rfl) (by decide) (by decide) (fun T h8 v8 L8 X q8 => ?_)
  obtain ⟨rfl, Kc8, Bd8⟩ := q8
  have K20 : Keep h0 h8 [] := K18.trans Kc8 (fun x hx => by simp only [List.mem_cons, List.not_mem_nil, or_false] at hx; rcases hx with rfl | rfl <;> first | exact (Or.inr sz_b1) | exact (Or.inr sz_d7))
  replace Bd8 : Bld Z h8 b1 d7 (18 : Int32) [(.int 67), (.int 97), (.int 110), (.int 110), (.int 111), (.int 116), (.int 32), (.int 100), (.int 101), (.int 112), (.int 108), (.int 111), (.int 121), (.int 32), (.int x0), (.int 58), (.int 32), (.int y0), (.int 0), (.int 0), (.int 0), (.int 0), (.int 0), (.int 0), (.int 0), (.int 0), (.int 0), (.int 0), (.int 0), (.int 0), (.int 0), (.int 0), (.int 0), (.int 0)] := Bd8
  show Wp _ _ _ _ (T.setTop (mkF _ _ _ [(.ref b1)]))
  refine w_callV X q8_11_25 (wd_106 hw) (wd_107 hw) (nfs X.hZ (wd_109 hw)) (wd_109 hw) (wd_108 hw) (wd_40 hw) (wd_110 hw) (by decide) Bd8.1 (argsL := []) (S := []) (m_ts_18 hw hS ⟨Bd8.1, Bd8.2.1, Bd8.2.2.1, Bd8.2.2.2.1, Bd8.2.2.2.2⟩ rfl rfl) pd_29 rfl rfl rfl (by decide) (leR rfl) (by decide) (by decide) (fun T h9 v9 L9 X q9 => ?_)
  obtain ⟨r9, t9, rfl, ga9, gb9, gc9, gd9, Tx9, Kc9⟩ := q9
  have K21 : Keep h0 h9 [] := K20.trans Kc9 (fun x hx => nomatch hx)
  replace Tx9 : Lat Z h9 r9 t9 (0 : Int32) [(.int 67), (.int 97), (.int 110), (.int 110), (.int 111), (.int 116), (.int 32), (.int 100), (.int 101), (.int 112), (.int 108), (.int 111), (.int 121), (.int 32), (.int x0), (.int 58), (.int 32), (.int y0)] := Tx9
  show Wp _ _ _ _ (T.setTop (mkF _ _ _ [(.ref r9)]))
  have f22 := ((((((E3.keep Kc4).keep Kc5).ext Ex6).keep Kc7).keep Kc8).keep Kc9)
  have f23 := ((((((C3.keep Kc4 (ni2 ⟨n13, n33⟩)).keep Kc5 (ni2 ⟨n13, n33⟩)).ext Ex6).keep Kc7 (ni1 n13)).keep Kc8 (ni2 ⟨n13, (nel (ltl (ltl (ltl (ltl E3.lt Kc4.1) Kc5.1) Ex6.1) gt7))⟩)).keep Kc9 (List.not_mem_nil))
  have f24 := ((((((V3.keep Kc4 (ni2 ⟨n13, n33⟩)).keep Kc5 (ni2 ⟨n13, n33⟩)).ext Ex6).keep Kc7 (ni1 n13)).keep Kc8 (ni2 ⟨n13, (nel (ltl (ltl (ltl (ltl E3.lt Kc4.1) Kc5.1) Ex6.1) gt7))⟩)).keep Kc9 (List.not_mem_nil))
  have f25 := ((((((B3.keep Kc4 (ni2 ⟨n23, n43⟩)).keep Kc5 (ni2 ⟨n23, n43⟩)).ext Ex6).keep Kc7 (ni1 n23)).keep Kc8 (ni2 ⟨n23, (nel (ltl (ltl (ltl (ltl B3.lt Kc4.1) Kc5.1) Ex6.1) gt7))⟩)).keep Kc9 (List.not_mem_nil))
  have f26 := ((((((N3.1.keep Kc4).keep Kc5).ext Ex6).keep Kc7).keep Kc8).keep Kc9)
  exact g_retR X Y rfl (rfl) rfl q8_11_28 (fun vm' hW => ⟨_, _, rfl, Tx9, K21, own_EtF Gs.2.1 K21 N3.2.1 (fun us hus => N6.2.2.1 _ us (by decide) hus) hW.interned_eq ((N3.2.2.2.trans N6.2.2.2).trans hW.alike) (X.hZ.alike.trans hW.alike) ⟨by decide, rfl⟩ (wd_8 hw) ⟨f22, f23, f24, f25⟩ f26⟩) (by decide) (by decide)
theorem m_msg_1_2 (hw : own_hw a0 Z) {h0 : Heap} {zc : Int32} {fm : Value} {p1 p2 t1 t2 : Addr} {x0 y0 y1 : Int32} (hS : own_S Z zc fm) (hheld : ∀ p ∈ consts_1, Jvm.Lit.constHeld Z p.1 p.2) (hcw : Jvm.Lit.compactW.before a0 Z = true) (T1 : Lat Z h0 p1 t1 (0 : Int32) [(.int x0)]) (T2 : Lat Z h0 p2 t2 (0 : Int32) [(.int y0), (.int y1)]) :
    DoesG l Z n0 (own_G Z h0) ⟨"com/example/inflow/inflow/model/DeploymentException", "message", "(Ljava/lang/String;Ljava/lang/String;)Ljava/lang/String;"⟩ prog_8_method_11_code 2 (some (.object "java/lang/String")) [] { frames := 6, cells := 9, slots := 152, locals := 113 } #[(.ref p1), (.ref p2)] h0 (fun v h vm => ∃ a t, v = some (.ref a) ∧ Lat Z h a t (0 : Int32) [(.int 67), (.int 97), (.int 110), (.int 110), (.int 111), (.int 116), (.int 32), (.int 100), (.int 101), (.int 112), (.int 108), (.int 111), (.int 121), (.int 32), (.int x0), (.int 58), (.int 32), (.int y0), (.int y1)] ∧ Keep h0 h [] ∧ Et Z "Cannot deploy " h vm) := by
  refine DoesG.start (plainFor_of_name pn_9) ?_
  obtain ⟨S_zc, hzc, S_fm, hfm⟩ := id hS
  intro p e s m below meth c T X Y hs0 Gs
  replace X : Sd _ _ _ _ _ "com/example/inflow/inflow/model/DeploymentException" "message" _ _ _ _ _ _ _ _ _ _ _ _ _ _ _ _ := X
  refine Wp.cast (g' := mkF m 0 #[.val (.ref p1), .val (.ref p2)] []) (by first | (simp [entryFrame, mkF, argsToLocals, Value.category, maxLocals]; done) | rfl) ?_
  have hZ0 := X.old.2.2
  refine w_new X q8_11_0 (wd_38 hw) (wd_39 hw) (wd_40 hw) (by decide) (by decide) (fun T h1 b1 g1 gn1 X E1 A1 D1 => ?_)
  have sz_b1 : h0.size ≤ b1 := Nat.le_trans (Keep.refl h0 []).1 (Nat.le_of_eq g1.symm)
  have K1 : Keep h0 h1 [] := (Keep.refl h0 []).ext E1
  refine w_dup X q8_11_3 rfl ?_
  refine w_callI X q8_11_4 rfl (wd_41 hw) (wd_42 hw) (wd_40 hw) (wd_43 hw) (by decide) (argsL := []) (S := [(.ref b1)]) (m_sb hw hS gn1 A1 (show Fld Z h1 b1 "java/lang/AbstractStringBuilder" "value" "[B" .null from D1 (Or.inl (wd_53 hw)) (ty := (.array .byte)) (by decide)) (show Fld Z h1 b1 "java/lang/AbstractStringBuilder" "coder" "B" (.int 0) from D1 (Or.inl (wd_55 hw)) (ty := .byte) (by decide)) (show Fld Z h1 b1 "java/lang/AbstractStringBuilder" "count" "I" (.int 0) from D1 (Or.inl (wd_79 hw)) (ty := .int) (by decide))) pd_27 rfl rfl rfl (by decide) (leR rfl) (by decide) (by decide) (fun T h2 v2 L2 X q2 => ?_)
  obtain ⟨rfl, Kc2, d2, gt2, gn2, Bd2, Ed2⟩ := q2
  have K2 : Keep h0 h2 [] := K1.trans Kc2 (fun x hx => by cases List.mem_singleton.mp hx; exact (Or.inr sz_b1))
  have sz_d2 : h0.size ≤ d2 := Nat.le_trans K1.1 gt2
  replace Bd2 : Bld Z h2 b1 d2 (0 : Int32) [(.int 0), (.int 0), (.int 0), (.int 0), (.int 0), (.int 0), (.int 0), (.int 0), (.int 0), (.int 0), (.int 0), (.int 0), (.int 0), (.int 0), (.int 0), (.int 0)] := Bd2
  show Wp _ _ _ _ (T.setTop (mkF _ _ _ [(.ref b1)]))
  refine v_ldcX X Y q8_11_7 (wd_56 hw) (own_wS hw) (by rw [hs0]; exact fun b c r => K2.2.1 b c r List.not_mem_nil) (by rw [hs0]; exact hZ0) (by rw [hs0]; exact Gs.2.1) (Gs.2.1.keep K2) (hheld _ (List.mem_of_getElem? (i := 0) rfl)) hcw [(.int 67), (.int 97), (.int 110), (.int 110), (.int 111), (.int 116), (.int 32), (.int 100), (.int 101), (.int 112), (.int 108), (.int 111), (.int 121), (.int 32)] (by decide) 56 (by decide) (by decide) (by decide) (by decide) (fun T h3 u kk a3 b3 X Y Ex3 E3 C3 V3 B3 M3 O3 L3 N3 => ?_)
  have K3 : Keep h0 h3 [] := K2.ext Ex3
  have f4 := (Bd2.1.ext Ex3)
  have n13 : a3 ≠ b1 := own_neC E3 f4 (by decide)
  have n23 : b3 ≠ b1 := Ne.symm (own_ane f4 (wd_39 hw) B3)
  have f5 := (Bd2.2.2.2.2.ext Ex3)
  have n33 : a3 ≠ d2 := own_ane E3 (wd_8 hw) f5
  have n43 : b3 ≠ d2 := own_aryNe B3 f5 (by decide)
  have f6 := (Bd2.2.1.ext Ex3)
  have f7 := (Bd2.2.2.1.ext Ex3)
  have f8 := (Bd2.2.2.2.1.ext Ex3)
  refine w_callV X q8_11_9 (wd_57 hw) (wd_58 hw) (nfs X.hZ (wd_60 hw)) (wd_60 hw) (wd_59 hw) (wd_40 hw) (wd_61 hw) (by decide) f4 (argsL := [(.ref a3)]) (S := []) (m_app hw hS gn1 gn2 ⟨f4, f6, f7, f8, f5⟩ ⟨E3, C3, V3, B3⟩ (k := (0 : Int32)) (n := (14 : Int32)) (cp := (16 : Int32)) rfl (by decide) rfl (by decide) (leR rfl)) pd_28 rfl rfl rfl (by decide) (leR rfl) (by decide) (by decide) (fun T h4 v4 L4 X q4 => ?_)
  obtain ⟨rfl, Kc4, Bd4⟩ := q4
  have K9 : Keep h0 h4 [] := K3.trans Kc4 (fun x hx => by simp only [List.mem_cons, List.not_mem_nil, or_false] at hx; rcases hx with rfl | rfl <;> first | exact (Or.inr sz_b1) | exact (Or.inr sz_d2))
  replace Bd4 : Bld Z h4 b1 d2 (14 : Int32) [(.int 67), (.int 97), (.int 110), (.int 110), (.int 111), (.int 116), (.int 32), (.int 100), (.int 101), (.int 112), (.int 108), (.int 111), (.int 121), (.int 32), (.int 0), (.int 0)] := Bd4
  show Wp _ _ _ _ (T.setTop (mkF _ _ _ [(.ref b1)]))
  refine w_aloadN X q8_11_12 rfl (rfl) ?_
  have f10 := ((((T1.ext E1).keep Kc2 (ni1 (nel (ltl T1.1.lt (Nat.le_of_eq g1.symm)))) (ni1 (nel (ltl T1.2.2.2.lt (Nat.le_of_eq g1.symm))))).ext Ex3).keep Kc4 (ni2 ⟨(nel (ltl T1.1.lt (Nat.le_of_eq g1.symm))), (nel (ltl (ltl T1.1.lt E1.1) gt2))⟩) (ni2 ⟨(nel (ltl T1.2.2.2.lt (Nat.le_of_eq g1.symm))), (nel (ltl (ltl T1.2.2.2.lt E1.1) gt2))⟩))
  refine w_callV X q8_11_13 (wd_57 hw) (wd_58 hw) (nfs X.hZ (wd_60 hw)) (wd_60 hw) (wd_59 hw) (wd_40 hw) (wd_61 hw) (by decide) Bd4.1 (argsL := [(.ref p1)]) (S := []) (m_app hw hS gn1 gn2 ⟨Bd4.1, Bd4.2.1, Bd4.2.2.1, Bd4.2.2.2.1, Bd4.2.2.2.2⟩ f10 (k := (14 : Int32)) (n := (1 : Int32)) (cp := (16 : Int32)) rfl (by decide) rfl (by decide) (leR rfl)) pd_28 rfl rfl rfl (by decide) (leR rfl) (by decide) (by decide) (fun T h5 v5 L5 X q5 => ?_)
  obtain ⟨rfl, Kc5, Bd5⟩ := q5
  have K11 : Keep h0 h5 [] := K9.trans Kc5 (fun x hx => by simp only [List.mem_cons, List.not_mem_nil, or_false] at hx; rcases hx with rfl | rfl <;> first | exact (Or.inr sz_b1) | exact (Or.inr sz_d2))
  replace Bd5 : Bld Z h5 b1 d2 (15 : Int32) [(.int 67), (.int 97), (.int 110), (.int 110), (.int 111), (.int 116), (.int 32), (.int 100), (.int 101), (.int 112), (.int 108), (.int 111), (.int 121), (.int 32), (.int x0), (.int 0)] := Bd5
  show Wp _ _ _ _ (T.setTop (mkF _ _ _ [(.ref b1)]))
  refine v_ldcX X Y q8_11_16 (wd_105 hw) (own_wS hw) (by rw [hs0]; exact fun b c r => K11.2.1 b c r List.not_mem_nil) (by rw [hs0]; exact hZ0) (by rw [hs0]; exact own_EtO Gs.2.2 (Keep.refl _ _) (fun us hus => N3.2.2.1 _ us (by decide) hus) N3.2.2.2) (own_EtO Gs.2.2 K11 (fun us hus => N3.2.2.1 _ us (by decide) hus) N3.2.2.2) (hheld _ (List.mem_of_getElem? (i := 1) rfl)) hcw [(.int 58), (.int 32)] (by decide) 8 (by decide) (by decide) (by decide) (by decide) (fun T h6 u kk a6 b6 X Y Ex6 E6 C6 V6 B6 M6 O6 L6 N6 => ?_)
  have K12 : Keep h0 h6 [] := K11.ext Ex6
  have f13 := (Bd5.1.ext Ex6)
  have f14 := (Bd5.2.1.ext Ex6)
  have f15 := (Bd5.2.2.1.ext Ex6)
  have f16 := (Bd5.2.2.2.1.ext Ex6)
  have f17 := (Bd5.2.2.2.2.ext Ex6)
  refine w_callV X q8_11_18 (wd_57 hw) (wd_58 hw) (nfs X.hZ (wd_60 hw)) (wd_60 hw) (wd_59 hw) (wd_40 hw) (wd_61 hw) (by decide) f13 (argsL := [(.ref a6)]) (S := []) (m_apg_15_2 hw hS gn1 gn2 ⟨f13, f14, f15, f16, f17⟩ ⟨E6, C6, V6, B6⟩ rfl rfl rfl rfl) pd_28 rfl rfl rfl (by decide) (leR rfl) (by decide) (by decide) (fun T h7 v7 L7 X q7 => ?_)
  obtain ⟨rfl, Kc7, d7, gt7, gn7, Bd7, Ed7⟩ := q7
  have K18 : Keep h0 h7 [] := K12.trans Kc7 (fun x hx => by cases List.mem_singleton.mp hx; exact (Or.inr sz_b1))
  have sz_d7 : h0.size ≤ d7 := Nat.le_trans K12.1 gt7
  replace Bd7 : Bld Z h7 b1 d7 (17 : Int32) [(.int 67), (.int 97), (.int 110), (.int 110), (.int 111), (.int 116), (.int 32), (.int 100), (.int 101), (.int 112), (.int 108), (.int 111), (.int 121), (.int 32), (.int x0), (.int 58), (.int 32), (.int 0), (.int 0), (.int 0), (.int 0), (.int 0), (.int 0), (.int 0), (.int 0), (.int 0), (.int 0), (.int 0), (.int 0), (.int 0), (.int 0), (.int 0), (.int 0), (.int 0)] := Bd7
  show Wp _ _ _ _ (T.setTop (mkF _ _ _ [(.ref b1)]))
  refine w_aloadN X q8_11_21 rfl (rfl) ?_
  have f19 := (((((((T2.ext E1).keep Kc2 (ni1 (nel (ltl T2.1.lt (Nat.le_of_eq g1.symm)))) (ni1 (nel (ltl T2.2.2.2.lt (Nat.le_of_eq g1.symm))))).ext Ex3).keep Kc4 (ni2 ⟨(nel (ltl T2.1.lt (Nat.le_of_eq g1.symm))), (nel (ltl (ltl T2.1.lt E1.1) gt2))⟩) (ni2 ⟨(nel (ltl T2.2.2.2.lt (Nat.le_of_eq g1.symm))), (nel (ltl (ltl T2.2.2.2.lt E1.1) gt2))⟩)).keep Kc5 (ni2 ⟨(nel (ltl T2.1.lt (Nat.le_of_eq g1.symm))), (nel (ltl (ltl T2.1.lt E1.1) gt2))⟩) (ni2 ⟨(nel (ltl T2.2.2.2.lt (Nat.le_of_eq g1.symm))), (nel (ltl (ltl T2.2.2.2.lt E1.1) gt2))⟩)).ext Ex6).keep Kc7 (ni1 (nel (ltl T2.1.lt (Nat.le_of_eq g1.symm)))) (ni1 (nel (ltl T2.2.2.2.lt (Nat.le_of_eq g1.symm)))))
  refine w_callV X q8_11_22 (wd_57 hw) (wd_58 hw) (nfs X.hZ (wd_60 hw)) (wd_60 hw) (wd_59 hw) (wd_40 hw) (wd_61 hw) (by decide) Bd7.1 (argsL := [(.ref p2)]) (S := []) (m_app hw hS gn1 gn7 ⟨Bd7.1, Bd7.2.1, Bd7.2.2.1, Bd7.2.2.2.1, Bd7.2.2.2.2⟩ f19 (k := (17 : Int32)) (n := (2 : Int32)) (cp := (34 : Int32)) rfl (by decide) rfl (by decide) (leR rfl)) pd_28 rfl rfl rfl (by decide) (leR rfl) (by decide) (by decide) (fun T h8 v8 L8 X q8 => ?_)
  obtain ⟨rfl, Kc8, Bd8⟩ := q8
  have K20 : Keep h0 h8 [] := K18.trans Kc8 (fun x hx => by simp only [List.mem_cons, List.not_mem_nil, or_false] at hx; rcases hx with rfl | rfl <;> first | exact (Or.inr sz_b1) | exact (Or.inr sz_d7))
  replace Bd8 : Bld Z h8 b1 d7 (19 : Int32) [(.int 67), (.int 97), (.int 110), (.int 110), (.int 111), (.int 116), (.int 32), (.int 100), (.int 101), (.int 112), (.int 108), (.int 111), (.int 121), (.int 32), (.int x0), (.int 58), (.int 32), (.int y0), (.int y1), (.int 0), (.int 0), (.int 0), (.int 0), (.int 0), (.int 0), (.int 0), (.int 0), (.int 0), (.int 0), (.int 0), (.int 0), (.int 0), (.int 0), (.int 0)] := Bd8
  show Wp _ _ _ _ (T.setTop (mkF _ _ _ [(.ref b1)]))
  refine w_callV X q8_11_25 (wd_106 hw) (wd_107 hw) (nfs X.hZ (wd_109 hw)) (wd_109 hw) (wd_108 hw) (wd_40 hw) (wd_110 hw) (by decide) Bd8.1 (argsL := []) (S := []) (m_ts_19 hw hS ⟨Bd8.1, Bd8.2.1, Bd8.2.2.1, Bd8.2.2.2.1, Bd8.2.2.2.2⟩ rfl rfl) pd_29 rfl rfl rfl (by decide) (leR rfl) (by decide) (by decide) (fun T h9 v9 L9 X q9 => ?_)
  obtain ⟨r9, t9, rfl, ga9, gb9, gc9, gd9, Tx9, Kc9⟩ := q9
  have K21 : Keep h0 h9 [] := K20.trans Kc9 (fun x hx => nomatch hx)
  replace Tx9 : Lat Z h9 r9 t9 (0 : Int32) [(.int 67), (.int 97), (.int 110), (.int 110), (.int 111), (.int 116), (.int 32), (.int 100), (.int 101), (.int 112), (.int 108), (.int 111), (.int 121), (.int 32), (.int x0), (.int 58), (.int 32), (.int y0), (.int y1)] := Tx9
  show Wp _ _ _ _ (T.setTop (mkF _ _ _ [(.ref r9)]))
  have f22 := ((((((E3.keep Kc4).keep Kc5).ext Ex6).keep Kc7).keep Kc8).keep Kc9)
  have f23 := ((((((C3.keep Kc4 (ni2 ⟨n13, n33⟩)).keep Kc5 (ni2 ⟨n13, n33⟩)).ext Ex6).keep Kc7 (ni1 n13)).keep Kc8 (ni2 ⟨n13, (nel (ltl (ltl (ltl (ltl E3.lt Kc4.1) Kc5.1) Ex6.1) gt7))⟩)).keep Kc9 (List.not_mem_nil))
  have f24 := ((((((V3.keep Kc4 (ni2 ⟨n13, n33⟩)).keep Kc5 (ni2 ⟨n13, n33⟩)).ext Ex6).keep Kc7 (ni1 n13)).keep Kc8 (ni2 ⟨n13, (nel (ltl (ltl (ltl (ltl E3.lt Kc4.1) Kc5.1) Ex6.1) gt7))⟩)).keep Kc9 (List.not_mem_nil))
  have f25 := ((((((B3.keep Kc4 (ni2 ⟨n23, n43⟩)).keep Kc5 (ni2 ⟨n23, n43⟩)).ext Ex6).keep Kc7 (ni1 n23)).keep Kc8 (ni2 ⟨n23, (nel (ltl (ltl (ltl (ltl B3.lt Kc4.1) Kc5.1) Ex6.1) gt7))⟩)).keep Kc9 (List.not_mem_nil))
  have f26 := ((((((N3.1.keep Kc4).keep Kc5).ext Ex6).keep Kc7).keep Kc8).keep Kc9)
  exact g_retR X Y rfl (rfl) rfl q8_11_28 (fun vm' hW => ⟨_, _, rfl, Tx9, K21, own_EtF Gs.2.1 K21 N3.2.1 (fun us hus => N6.2.2.1 _ us (by decide) hus) hW.interned_eq ((N3.2.2.2.trans N6.2.2.2).trans hW.alike) (X.hZ.alike.trans hW.alike) ⟨by decide, rfl⟩ (wd_8 hw) ⟨f22, f23, f24, f25⟩ f26⟩) (by decide) (by decide)
theorem m_msg_1_3 (hw : own_hw a0 Z) {h0 : Heap} {zc : Int32} {fm : Value} {p1 p2 t1 t2 : Addr} {x0 y0 y1 y2 : Int32} (hS : own_S Z zc fm) (hheld : ∀ p ∈ consts_1, Jvm.Lit.constHeld Z p.1 p.2) (hcw : Jvm.Lit.compactW.before a0 Z = true) (T1 : Lat Z h0 p1 t1 (0 : Int32) [(.int x0)]) (T2 : Lat Z h0 p2 t2 (0 : Int32) [(.int y0), (.int y1), (.int y2)]) :
    DoesG l Z n0 (own_G Z h0) ⟨"com/example/inflow/inflow/model/DeploymentException", "message", "(Ljava/lang/String;Ljava/lang/String;)Ljava/lang/String;"⟩ prog_8_method_11_code 2 (some (.object "java/lang/String")) [] { frames := 6, cells := 9, slots := 152, locals := 113 } #[(.ref p1), (.ref p2)] h0 (fun v h vm => ∃ a t, v = some (.ref a) ∧ Lat Z h a t (0 : Int32) [(.int 67), (.int 97), (.int 110), (.int 110), (.int 111), (.int 116), (.int 32), (.int 100), (.int 101), (.int 112), (.int 108), (.int 111), (.int 121), (.int 32), (.int x0), (.int 58), (.int 32), (.int y0), (.int y1), (.int y2)] ∧ Keep h0 h [] ∧ Et Z "Cannot deploy " h vm) := by
  refine DoesG.start (plainFor_of_name pn_9) ?_
  obtain ⟨S_zc, hzc, S_fm, hfm⟩ := id hS
  intro p e s m below meth c T X Y hs0 Gs
  replace X : Sd _ _ _ _ _ "com/example/inflow/inflow/model/DeploymentException" "message" _ _ _ _ _ _ _ _ _ _ _ _ _ _ _ _ := X
  refine Wp.cast (g' := mkF m 0 #[.val (.ref p1), .val (.ref p2)] []) (by first | (simp [entryFrame, mkF, argsToLocals, Value.category, maxLocals]; done) | rfl) ?_
  have hZ0 := X.old.2.2
  refine w_new X q8_11_0 (wd_38 hw) (wd_39 hw) (wd_40 hw) (by decide) (by decide) (fun T h1 b1 g1 gn1 X E1 A1 D1 => ?_)
  have sz_b1 : h0.size ≤ b1 := Nat.le_trans (Keep.refl h0 []).1 (Nat.le_of_eq g1.symm)
  have K1 : Keep h0 h1 [] := (Keep.refl h0 []).ext E1
  refine w_dup X q8_11_3 rfl ?_
  refine w_callI X q8_11_4 rfl (wd_41 hw) (wd_42 hw) (wd_40 hw) (wd_43 hw) (by decide) (argsL := []) (S := [(.ref b1)]) (m_sb hw hS gn1 A1 (show Fld Z h1 b1 "java/lang/AbstractStringBuilder" "value" "[B" .null from D1 (Or.inl (wd_53 hw)) (ty := (.array .byte)) (by decide)) (show Fld Z h1 b1 "java/lang/AbstractStringBuilder" "coder" "B" (.int 0) from D1 (Or.inl (wd_55 hw)) (ty := .byte) (by decide)) (show Fld Z h1 b1 "java/lang/AbstractStringBuilder" "count" "I" (.int 0) from D1 (Or.inl (wd_79 hw)) (ty := .int) (by decide))) pd_27 rfl rfl rfl (by decide) (leR rfl) (by decide) (by decide) (fun T h2 v2 L2 X q2 => ?_)
  obtain ⟨rfl, Kc2, d2, gt2, gn2, Bd2, Ed2⟩ := q2
  have K2 : Keep h0 h2 [] := K1.trans Kc2 (fun x hx => by cases List.mem_singleton.mp hx; exact (Or.inr sz_b1))
  have sz_d2 : h0.size ≤ d2 := Nat.le_trans K1.1 gt2
  replace Bd2 : Bld Z h2 b1 d2 (0 : Int32) [(.int 0), (.int 0), (.int 0), (.int 0), (.int 0), (.int 0), (.int 0), (.int 0), (.int 0), (.int 0), (.int 0), (.int 0), (.int 0), (.int 0), (.int 0), (.int 0)] := Bd2
  show Wp _ _ _ _ (T.setTop (mkF _ _ _ [(.ref b1)]))
  refine v_ldcX X Y q8_11_7 (wd_56 hw) (own_wS hw) (by rw [hs0]; exact fun b c r => K2.2.1 b c r List.not_mem_nil) (by rw [hs0]; exact hZ0) (by rw [hs0]; exact Gs.2.1) (Gs.2.1.keep K2) (hheld _ (List.mem_of_getElem? (i := 0) rfl)) hcw [(.int 67), (.int 97), (.int 110), (.int 110), (.int 111), (.int 116), (.int 32), (.int 100), (.int 101), (.int 112), (.int 108), (.int 111), (.int 121), (.int 32)] (by decide) 56 (by decide) (by decide) (by decide) (by decide) (fun T h3 u kk a3 b3 X Y Ex3 E3 C3 V3 B3 M3 O3 L3 N3 => ?_)
  have K3 : Keep h0 h3 [] := K2.ext Ex3
  have f4 := (Bd2.1.ext Ex3)
  have n13 : a3 ≠ b1 := own_neC E3 f4 (by decide)
  have n23 : b3 ≠ b1 := Ne.symm (own_ane f4 (wd_39 hw) B3)
  have f5 := (Bd2.2.2.2.2.ext Ex3)
  have n33 : a3 ≠ d2 := own_ane E3 (wd_8 hw) f5
  have n43 : b3 ≠ d2 := own_aryNe B3 f5 (by decide)
  have f6 := (Bd2.2.1.ext Ex3)
  have f7 := (Bd2.2.2.1.ext Ex3)
  have f8 := (Bd2.2.2.2.1.ext Ex3)
  refine w_callV X q8_11_9 (wd_57 hw) (wd_58 hw) (nfs X.hZ (wd_60 hw)) (wd_60 hw) (wd_59 hw) (wd_40 hw) (wd_61 hw) (by decide) f4 (argsL := [(.ref a3)]) (S := []) (m_app hw hS gn1 gn2 ⟨f4, f6, f7, f8, f5⟩ ⟨E3, C3, V3, B3⟩ (k := (0 : Int32)) (n := (14 : Int32)) (cp := (16 : Int32)) rfl (by decide) rfl (by decide) (leR rfl)) pd_28 rfl rfl rfl (by decide) (leR rfl) (by decide) (by decide) (fun T h4 v4 L4 X q4 => ?_)
  obtain ⟨rfl, Kc4, Bd4⟩ := q4
  have K9 : Keep h0 h4 [] := K3.trans Kc4 (fun x hx => by simp only [List.mem_cons, List.not_mem_nil, or_false] at hx; rcases hx with rfl | rfl <;> first | exact (Or.inr sz_b1) | exact (Or.inr sz_d2))
  replace Bd4 : Bld Z h4 b1 d2 (14 : Int32) [(.int 67), (.int 97), (.int 110), (.int 110), (.int 111), (.int 116), (.int 32), (.int 100), (.int 101), (.int 112), (.int 108), (.int 111), (.int 121), (.int 32), (.int 0), (.int 0)] := Bd4
  show Wp _ _ _ _ (T.setTop (mkF _ _ _ [(.ref b1)]))
  refine w_aloadN X q8_11_12 rfl (rfl) ?_
  have f10 := ((((T1.ext E1).keep Kc2 (ni1 (nel (ltl T1.1.lt (Nat.le_of_eq g1.symm)))) (ni1 (nel (ltl T1.2.2.2.lt (Nat.le_of_eq g1.symm))))).ext Ex3).keep Kc4 (ni2 ⟨(nel (ltl T1.1.lt (Nat.le_of_eq g1.symm))), (nel (ltl (ltl T1.1.lt E1.1) gt2))⟩) (ni2 ⟨(nel (ltl T1.2.2.2.lt (Nat.le_of_eq g1.symm))), (nel (ltl (ltl T1.2.2.2.lt E1.1) gt2))⟩))
  refine w_callV X q8_11_13 (wd_57 hw) (wd_58 hw) (nfs X.hZ (wd_60 hw)) (wd_60 hw) (wd_59 hw) (wd_40 hw) (wd_61 hw) (by decide) Bd4.1 (argsL := [(.ref p1)]) (S := []) (m_app hw hS gn1 gn2 ⟨Bd4.1, Bd4.2.1, Bd4.2.2.1, Bd4.2.2.2.1, Bd4.2.2.2.2⟩ f10 (k := (14 : Int32)) (n := (1 : Int32)) (cp := (16 : Int32)) rfl (by decide) rfl (by decide) (leR rfl)) pd_28 rfl rfl rfl (by decide) (leR rfl) (by decide) (by decide) (fun T h5 v5 L5 X q5 => ?_)
  obtain ⟨rfl, Kc5, Bd5⟩ := q5
  have K11 : Keep h0 h5 [] := K9.trans Kc5 (fun x hx => by simp only [List.mem_cons, List.not_mem_nil, or_false] at hx; rcases hx with rfl | rfl <;> first | exact (Or.inr sz_b1) | exact (Or.inr sz_d2))
  replace Bd5 : Bld Z h5 b1 d2 (15 : Int32) [(.int 67), (.int 97), (.int 110), (.int 110), (.int 111), (.int 116), (.int 32), (.int 100), (.int 101), (.int 112), (.int 108), (.int 111), (.int 121), (.int 32), (.int x0), (.int 0)] := Bd5
  show Wp _ _ _ _ (T.setTop (mkF _ _ _ [(.ref b1)]))
  refine v_ldcX X Y q8_11_16 (wd_105 hw) (own_wS hw) (by rw [hs0]; exact fun b c r => K11.2.1 b c r List.not_mem_nil) (by rw [hs0]; exact hZ0) (by rw [hs0]; exact own_EtO Gs.2.2 (Keep.refl _ _) (fun us hus => N3.2.2.1 _ us (by decide) hus) N3.2.2.2) (own_EtO Gs.2.2 K11 (fun us hus => N3.2.2.1 _ us (by decide) hus) N3.2.2.2) (hheld _ (List.mem_of_getElem? (i := 1) rfl)) hcw [(.int 58), (.int 32)] (by decide) 8 (by decide) (by decide) (by decide) (by decide) (fun T h6 u kk a6 b6 X Y Ex6 E6 C6 V6 B6 M6 O6 L6 N6 => ?_)
  have K12 : Keep h0 h6 [] := K11.ext Ex6
  have f13 := (Bd5.1.ext Ex6)
  have f14 := (Bd5.2.1.ext Ex6)
  have f15 := (Bd5.2.2.1.ext Ex6)
  have f16 := (Bd5.2.2.2.1.ext Ex6)
  have f17 := (Bd5.2.2.2.2.ext Ex6)
  refine w_callV X q8_11_18 (wd_57 hw) (wd_58 hw) (nfs X.hZ (wd_60 hw)) (wd_60 hw) (wd_59 hw) (wd_40 hw) (wd_61 hw) (by decide) f13 (argsL := [(.ref a6)]) (S := []) (m_apg_15_2 hw hS gn1 gn2 ⟨f13, f14, f15, f16, f17⟩ ⟨E6, C6, V6, B6⟩ rfl rfl rfl rfl) pd_28 rfl rfl rfl (by decide) (leR rfl) (by decide) (by decide) (fun T h7 v7 L7 X q7 => ?_)
  obtain ⟨rfl, Kc7, d7, gt7, gn7, Bd7, Ed7⟩ := q7
  have K18 : Keep h0 h7 [] := K12.trans Kc7 (fun x hx => by cases List.mem_singleton.mp hx; exact (Or.inr sz_b1))
  have sz_d7 : h0.size ≤ d7 := Nat.le_trans K12.1 gt7
  replace Bd7 : Bld Z h7 b1 d7 (17 : Int32) [(.int 67), (.int 97), (.int 110), (.int 110), (.int 111), (.int 116), (.int 32), (.int 100), (.int 101), (.int 112), (.int 108), (.int 111), (.int 121), (.int 32), (.int x0), (.int 58), (.int 32), (.int 0), (.int 0), (.int 0), (.int 0), (.int 0), (.int 0), (.int 0), (.int 0), (.int 0), (.int 0), (.int 0), (.int 0), (.int 0), (.int 0), (.int 0), (.int 0), (.int 0)] := Bd7
  show Wp _ _ _ _ (T.setTop (mkF _ _ _ [(.ref b1)]))
  refine w_aloadN X q8_11_21 rfl (rfl) ?_
  have f19 := (((((((T2.ext E1).keep Kc2 (ni1 (nel (ltl T2.1.lt (Nat.le_of_eq g1.symm)))) (ni1 (nel (ltl T2.2.2.2.lt (Nat.le_of_eq g1.symm))))).ext Ex3).keep Kc4 (ni2 ⟨(nel (ltl T2.1.lt (Nat.le_of_eq g1.symm))), (nel (ltl (ltl T2.1.lt E1.1) gt2))⟩) (ni2 ⟨(nel (ltl T2.2.2.2.lt (Nat.le_of_eq g1.symm))), (nel (ltl (ltl T2.2.2.2.lt E1.1) gt2))⟩)).keep Kc5 (ni2 ⟨(nel (ltl T2.1.lt (Nat.le_of_eq g1.symm))), (nel (ltl (ltl T2.1.lt E1.1) gt2))⟩) (ni2 ⟨(nel (ltl T2.2.2.2.lt (Nat.le_of_eq g1.symm))), (nel (ltl (ltl T2.2.2.2.lt E1.1) gt2))⟩)).ext Ex6).keep Kc7 (ni1 (nel (ltl T2.1.lt (Nat.le_of_eq g1.symm)))) (ni1 (nel (ltl T2.2.2.2.lt (Nat.le_of_eq g1.symm)))))
  refine w_callV X q8_11_22 (wd_57 hw) (wd_58 hw) (nfs X.hZ (wd_60 hw)) (wd_60 hw) (wd_59 hw) (wd_40 hw) (wd_61 hw) (by decide) Bd7.1 (argsL := [(.ref p2)]) (S := []) (m_app hw hS gn1 gn7 ⟨Bd7.1, Bd7.2.1, Bd7.2.2.1, Bd7.2.2.2.1, Bd7.2.2.2.2⟩ f19 (k := (17 : Int32)) (n := (3 : Int32)) (cp := (34 : Int32)) rfl (by decide) rfl (by decide) (leR rfl)) pd_28 rfl rfl rfl (by decide) (leR rfl) (by decide) (by decide) (fun T h8 v8 L8 X q8 => ?_)
  obtain ⟨rfl, Kc8, Bd8⟩ := q8
  have K20 : Keep h0 h8 [] := K18.trans Kc8 (fun x hx => by simp only [List.mem_cons, List.not_mem_nil, or_false] at hx; rcases hx with rfl | rfl <;> first | exact (Or.inr sz_b1) | exact (Or.inr sz_d7))
  replace Bd8 : Bld Z h8 b1 d7 (20 : Int32) [(.int 67), (.int 97), (.int 110), (.int 110), (.int 111), (.int 116), (.int 32), (.int 100), (.int 101), (.int 112), (.int 108), (.int 111), (.int 121), (.int 32), (.int x0), (.int 58), (.int 32), (.int y0), (.int y1), (.int y2), (.int 0), (.int 0), (.int 0), (.int 0), (.int 0), (.int 0), (.int 0), (.int 0), (.int 0), (.int 0), (.int 0), (.int 0), (.int 0), (.int 0)] := Bd8
  show Wp _ _ _ _ (T.setTop (mkF _ _ _ [(.ref b1)]))
  refine w_callV X q8_11_25 (wd_106 hw) (wd_107 hw) (nfs X.hZ (wd_109 hw)) (wd_109 hw) (wd_108 hw) (wd_40 hw) (wd_110 hw) (by decide) Bd8.1 (argsL := []) (S := []) (m_ts_20 hw hS ⟨Bd8.1, Bd8.2.1, Bd8.2.2.1, Bd8.2.2.2.1, Bd8.2.2.2.2⟩ rfl rfl) pd_29 rfl rfl rfl (by decide) (leR rfl) (by decide) (by decide) (fun T h9 v9 L9 X q9 => ?_)
  obtain ⟨r9, t9, rfl, ga9, gb9, gc9, gd9, Tx9, Kc9⟩ := q9
  have K21 : Keep h0 h9 [] := K20.trans Kc9 (fun x hx => nomatch hx)
  replace Tx9 : Lat Z h9 r9 t9 (0 : Int32) [(.int 67), (.int 97), (.int 110), (.int 110), (.int 111), (.int 116), (.int 32), (.int 100), (.int 101), (.int 112), (.int 108), (.int 111), (.int 121), (.int 32), (.int x0), (.int 58), (.int 32), (.int y0), (.int y1), (.int y2)] := Tx9
  show Wp _ _ _ _ (T.setTop (mkF _ _ _ [(.ref r9)]))
  have f22 := ((((((E3.keep Kc4).keep Kc5).ext Ex6).keep Kc7).keep Kc8).keep Kc9)
  have f23 := ((((((C3.keep Kc4 (ni2 ⟨n13, n33⟩)).keep Kc5 (ni2 ⟨n13, n33⟩)).ext Ex6).keep Kc7 (ni1 n13)).keep Kc8 (ni2 ⟨n13, (nel (ltl (ltl (ltl (ltl E3.lt Kc4.1) Kc5.1) Ex6.1) gt7))⟩)).keep Kc9 (List.not_mem_nil))
  have f24 := ((((((V3.keep Kc4 (ni2 ⟨n13, n33⟩)).keep Kc5 (ni2 ⟨n13, n33⟩)).ext Ex6).keep Kc7 (ni1 n13)).keep Kc8 (ni2 ⟨n13, (nel (ltl (ltl (ltl (ltl E3.lt Kc4.1) Kc5.1) Ex6.1) gt7))⟩)).keep Kc9 (List.not_mem_nil))
  have f25 := ((((((B3.keep Kc4 (ni2 ⟨n23, n43⟩)).keep Kc5 (ni2 ⟨n23, n43⟩)).ext Ex6).keep Kc7 (ni1 n23)).keep Kc8 (ni2 ⟨n23, (nel (ltl (ltl (ltl (ltl B3.lt Kc4.1) Kc5.1) Ex6.1) gt7))⟩)).keep Kc9 (List.not_mem_nil))
  have f26 := ((((((N3.1.keep Kc4).keep Kc5).ext Ex6).keep Kc7).keep Kc8).keep Kc9)
  exact g_retR X Y rfl (rfl) rfl q8_11_28 (fun vm' hW => ⟨_, _, rfl, Tx9, K21, own_EtF Gs.2.1 K21 N3.2.1 (fun us hus => N6.2.2.1 _ us (by decide) hus) hW.interned_eq ((N3.2.2.2.trans N6.2.2.2).trans hW.alike) (X.hZ.alike.trans hW.alike) ⟨by decide, rfl⟩ (wd_8 hw) ⟨f22, f23, f24, f25⟩ f26⟩) (by decide) (by decide)
theorem m_msg_2_0 (hw : own_hw a0 Z) {h0 : Heap} {zc : Int32} {fm : Value} {p1 p2 t1 t2 : Addr} {x0 x1 : Int32} (hS : own_S Z zc fm) (hheld : ∀ p ∈ consts_1, Jvm.Lit.constHeld Z p.1 p.2) (hcw : Jvm.Lit.compactW.before a0 Z = true) (T1 : Lat Z h0 p1 t1 (0 : Int32) [(.int x0), (.int x1)]) (T2 : Lat Z h0 p2 t2 (0 : Int32) []) :
    DoesG l Z n0 (own_G Z h0) ⟨"com/example/inflow/inflow/model/DeploymentException", "message", "(Ljava/lang/String;Ljava/lang/String;)Ljava/lang/String;"⟩ prog_8_method_11_code 2 (some (.object "java/lang/String")) [] { frames := 6, cells := 9, slots := 152, locals := 113 } #[(.ref p1), (.ref p2)] h0 (fun v h vm => ∃ a t, v = some (.ref a) ∧ Lat Z h a t (0 : Int32) [(.int 67), (.int 97), (.int 110), (.int 110), (.int 111), (.int 116), (.int 32), (.int 100), (.int 101), (.int 112), (.int 108), (.int 111), (.int 121), (.int 32), (.int x0), (.int x1), (.int 58), (.int 32)] ∧ Keep h0 h [] ∧ Et Z "Cannot deploy " h vm) := by
  refine DoesG.start (plainFor_of_name pn_9) ?_
  obtain ⟨S_zc, hzc, S_fm, hfm⟩ := id hS
  intro p e s m below meth c T X Y hs0 Gs
  replace X : Sd _ _ _ _ _ "com/example/inflow/inflow/model/DeploymentException" "message" _ _ _ _ _ _ _ _ _ _ _ _ _ _ _ _ := X
  refine Wp.cast (g' := mkF m 0 #[.val (.ref p1), .val (.ref p2)] []) (by first | (simp [entryFrame, mkF, argsToLocals, Value.category, maxLocals]; done) | rfl) ?_
  have hZ0 := X.old.2.2
  refine w_new X q8_11_0 (wd_38 hw) (wd_39 hw) (wd_40 hw) (by decide) (by decide) (fun T h1 b1 g1 gn1 X E1 A1 D1 => ?_)
  have sz_b1 : h0.size ≤ b1 := Nat.le_trans (Keep.refl h0 []).1 (Nat.le_of_eq g1.symm)
  have K1 : Keep h0 h1 [] := (Keep.refl h0 []).ext E1
  refine w_dup X q8_11_3 rfl ?_
  refine w_callI X q8_11_4 rfl (wd_41 hw) (wd_42 hw) (wd_40 hw) (wd_43 hw) (by decide) (argsL := []) (S := [(.ref b1)]) (m_sb hw hS gn1 A1 (show Fld Z h1 b1 "java/lang/AbstractStringBuilder" "value" "[B" .null from D1 (Or.inl (wd_53 hw)) (ty := (.array .byte)) (by decide)) (show Fld Z h1 b1 "java/lang/AbstractStringBuilder" "coder" "B" (.int 0) from D1 (Or.inl (wd_55 hw)) (ty := .byte) (by decide)) (show Fld Z h1 b1 "java/lang/AbstractStringBuilder" "count" "I" (.int 0) from D1 (Or.inl (wd_79 hw)) (ty := .int) (by decide))) pd_27 rfl rfl rfl (by decide) (leR rfl) (by decide) (by decide) (fun T h2 v2 L2 X q2 => ?_)
  obtain ⟨rfl, Kc2, d2, gt2, gn2, Bd2, Ed2⟩ := q2
  have K2 : Keep h0 h2 [] := K1.trans Kc2 (fun x hx => by cases List.mem_singleton.mp hx; exact (Or.inr sz_b1))
  have sz_d2 : h0.size ≤ d2 := Nat.le_trans K1.1 gt2
  replace Bd2 : Bld Z h2 b1 d2 (0 : Int32) [(.int 0), (.int 0), (.int 0), (.int 0), (.int 0), (.int 0), (.int 0), (.int 0), (.int 0), (.int 0), (.int 0), (.int 0), (.int 0), (.int 0), (.int 0), (.int 0)] := Bd2
  show Wp _ _ _ _ (T.setTop (mkF _ _ _ [(.ref b1)]))
  refine v_ldcX X Y q8_11_7 (wd_56 hw) (own_wS hw) (by rw [hs0]; exact fun b c r => K2.2.1 b c r List.not_mem_nil) (by rw [hs0]; exact hZ0) (by rw [hs0]; exact Gs.2.1) (Gs.2.1.keep K2) (hheld _ (List.mem_of_getElem? (i := 0) rfl)) hcw [(.int 67), (.int 97), (.int 110), (.int 110), (.int 111), (.int 116), (.int 32), (.int 100), (.int 101), (.int 112), (.int 108), (.int 111), (.int 121), (.int 32)] (by decide) 56 (by decide) (by decide) (by decide) (by decide) (fun T h3 u kk a3 b3 X Y Ex3 E3 C3 V3 B3 M3 O3 L3 N3 => ?_)
  have K3 : Keep h0 h3 [] := K2.ext Ex3
  have f4 := (Bd2.1.ext Ex3)
  have n13 : a3 ≠ b1 := own_neC E3 f4 (by decide)
  have n23 : b3 ≠ b1 := Ne.symm (own_ane f4 (wd_39 hw) B3)
  have f5 := (Bd2.2.2.2.2.ext Ex3)
  have n33 : a3 ≠ d2 := own_ane E3 (wd_8 hw) f5
  have n43 : b3 ≠ d2 := own_aryNe B3 f5 (by decide)
  have f6 := (Bd2.2.1.ext Ex3)
  have f7 := (Bd2.2.2.1.ext Ex3)
  have f8 := (Bd2.2.2.2.1.ext Ex3)
  refine w_callV X q8_11_9 (wd_57 hw) (wd_58 hw) (nfs X.hZ (wd_60 hw)) (wd_60 hw) (wd_59 hw) (wd_40 hw) (wd_61 hw) (by decide) f4 (argsL := [(.ref a3)]) (S := []) (m_app hw hS gn1 gn2 ⟨f4, f6, f7, f8, f5⟩ ⟨E3, C3, V3, B3⟩ (k := (0 : Int32)) (n := (14 : Int32)) (cp := (16 : Int32)) rfl (by decide) rfl (by decide) (leR rfl)) pd_28 rfl rfl rfl (by decide) (leR rfl) (by decide) (by decide) (fun T h4 v4 L4 X q4 => ?_)
  obtain ⟨rfl, Kc4, Bd4⟩ := q4
  have K9 : Keep h0 h4 [] := K3.trans Kc4 (fun x hx => by simp only [List.mem_cons, List.not_mem_nil, or_false] at hx; rcases hx with rfl | rfl <;> first | exact (Or.inr sz_b1) | exact (Or.inr sz_d2))
  replace Bd4 : Bld Z h4 b1 d2 (14 : Int32) [(.int 67), (.int 97), (.int 110), (.int 110), (.int 111), (.int 116), (.int 32), (.int 100), (.int 101), (.int 112), (.int 108), (.int 111), (.int 121), (.int 32), (.int 0), (.int 0)] := Bd4
  show Wp _ _ _ _ (T.setTop (mkF _ _ _ [(.ref b1)]))
  refine w_aloadN X q8_11_12 rfl (rfl) ?_
  have f10 := ((((T1.ext E1).keep Kc2 (ni1 (nel (ltl T1.1.lt (Nat.le_of_eq g1.symm)))) (ni1 (nel (ltl T1.2.2.2.lt (Nat.le_of_eq g1.symm))))).ext Ex3).keep Kc4 (ni2 ⟨(nel (ltl T1.1.lt (Nat.le_of_eq g1.symm))), (nel (ltl (ltl T1.1.lt E1.1) gt2))⟩) (ni2 ⟨(nel (ltl T1.2.2.2.lt (Nat.le_of_eq g1.symm))), (nel (ltl (ltl T1.2.2.2.lt E1.1) gt2))⟩))
  refine w_callV X q8_11_13 (wd_57 hw) (wd_58 hw) (nfs X.hZ (wd_60 hw)) (wd_60 hw) (wd_59 hw) (wd_40 hw) (wd_61 hw) (by decide) Bd4.1 (argsL := [(.ref p1)]) (S := []) (m_app hw hS gn1 gn2 ⟨Bd4.1, Bd4.2.1, Bd4.2.2.1, Bd4.2.2.2.1, Bd4.2.2.2.2⟩ f10 (k := (14 : Int32)) (n := (2 : Int32)) (cp := (16 : Int32)) rfl (by decide) rfl (by decide) (leR rfl)) pd_28 rfl rfl rfl (by decide) (leR rfl) (by decide) (by decide) (fun T h5 v5 L5 X q5 => ?_)
  obtain ⟨rfl, Kc5, Bd5⟩ := q5
  have K11 : Keep h0 h5 [] := K9.trans Kc5 (fun x hx => by simp only [List.mem_cons, List.not_mem_nil, or_false] at hx; rcases hx with rfl | rfl <;> first | exact (Or.inr sz_b1) | exact (Or.inr sz_d2))
  replace Bd5 : Bld Z h5 b1 d2 (16 : Int32) [(.int 67), (.int 97), (.int 110), (.int 110), (.int 111), (.int 116), (.int 32), (.int 100), (.int 101), (.int 112), (.int 108), (.int 111), (.int 121), (.int 32), (.int x0), (.int x1)] := Bd5
  show Wp _ _ _ _ (T.setTop (mkF _ _ _ [(.ref b1)]))
  refine v_ldcX X Y q8_11_16 (wd_105 hw) (own_wS hw) (by rw [hs0]; exact fun b c r => K11.2.1 b c r List.not_mem_nil) (by rw [hs0]; exact hZ0) (by rw [hs0]; exact own_EtO Gs.2.2 (Keep.refl _ _) (fun us hus => N3.2.2.1 _ us (by decide) hus) N3.2.2.2) (own_EtO Gs.2.2 K11 (fun us hus => N3.2.2.1 _ us (by decide) hus) N3.2.2.2) (hheld _ (List.mem_of_getElem? (i := 1) rfl)) hcw [(.int 58), (.int 32)] (by decide) 8 (by decide) (by decide) (by decide) (by decide) (fun T h6 u kk a6 b6 X Y Ex6 E6 C6 V6 B6 M6 O6 L6 N6 => ?_)
  have K12 : Keep h0 h6 [] := K11.ext Ex6
  have f13 := (Bd5.1.ext Ex6)
  have f14 := (Bd5.2.1.ext Ex6)
  have f15 := (Bd5.2.2.1.ext Ex6)
  have f16 := (Bd5.2.2.2.1.ext Ex6)
  have f17 := (Bd5.2.2.2.2.ext Ex6)
  refine w_callV X q8_11_18 (wd_57 hw) (wd_58 hw) (nfs X.hZ (wd_60 hw)) (wd_60 hw) (wd_59 hw) (wd_40 hw) (wd_61 hw) (by decide) f13 (argsL := [(.ref a6)]) (S := []) (m_apg_16_2 hw hS gn1 gn2 ⟨f13, f14, f15, f16, f17⟩ ⟨E6, C6, V6, B6⟩ rfl rfl rfl rfl) pd_28 rfl rfl rfl (by decide) (leR rfl) (by decide) (by decide) (fun T h7 v7 L7 X q7 => ?_)
  obtain ⟨rfl, Kc7, d7, gt7, gn7, Bd7, Ed7⟩ := q7
  have K18 : Keep h0 h7 [] := K12.trans Kc7 (fun x hx => by cases List.mem_singleton.mp hx; exact (Or.inr sz_b1))
  have sz_d7 : h0.size ≤ d7 := Nat.le_trans K12.1 gt7
  replace Bd7 : Bld Z h7 b1 d7 (18 : Int32) [(.int 67), (.int 97), (.int 110), (.int 110), (.int 111), (.int 116), (.int 32), (.int 100), (.int 101), (.int 112), (.int 108), (.int 111), (.int 121), (.int 32), (.int x0), (.int x1), (.int 58), (.int 32), (.int 0), (.int 0), (.int 0), (.int 0), (.int 0), (.int 0), (.int 0), (.int 0), (.int 0), (.int 0), (.int 0), (.int 0), (.int 0), (.int 0), (.int 0), (.int 0)] := Bd7
  show Wp _ _ _ _ (T.setTop (mkF _ _ _ [(.ref b1)]))
  refine w_aloadN X q8_11_21 rfl (rfl) ?_
  have f19 := (((((((T2.ext E1).keep Kc2 (ni1 (nel (ltl T2.1.lt (Nat.le_of_eq g1.symm)))) (ni1 (nel (ltl T2.2.2.2.lt (Nat.le_of_eq g1.symm))))).ext Ex3).keep Kc4 (ni2 ⟨(nel (ltl T2.1.lt (Nat.le_of_eq g1.symm))), (nel (ltl (ltl T2.1.lt E1.1) gt2))⟩) (ni2 ⟨(nel (ltl T2.2.2.2.lt (Nat.le_of_eq g1.symm))), (nel (ltl (ltl T2.2.2.2.lt E1.1) gt2))⟩)).keep Kc5 (ni2 ⟨(nel (ltl T2.1.lt (Nat.le_of_eq g1.symm))), (nel (ltl (ltl T2.1.lt E1.1) gt2))⟩) (ni2 ⟨(nel (ltl T2.2.2.2.lt (Nat.le_of_eq g1.symm))), (nel (ltl (ltl T2.2.2.2.lt E1.1) gt2))⟩)).ext Ex6).keep Kc7 (ni1 (nel (ltl T2.1.lt (Nat.le_of_eq g1.symm)))) (ni1 (nel (ltl T2.2.2.2.lt (Nat.le_of_eq g1.symm)))))
  refine w_callV X q8_11_22 (wd_57 hw) (wd_58 hw) (nfs X.hZ (wd_60 hw)) (wd_60 hw) (wd_59 hw) (wd_40 hw) (wd_61 hw) (by decide) Bd7.1 (argsL := [(.ref p2)]) (S := []) (m_app hw hS gn1 gn7 ⟨Bd7.1, Bd7.2.1, Bd7.2.2.1, Bd7.2.2.2.1, Bd7.2.2.2.2⟩ f19 (k := (18 : Int32)) (n := (0 : Int32)) (cp := (34 : Int32)) rfl (by decide) rfl (by decide) (leR rfl)) pd_28 rfl rfl rfl (by decide) (leR rfl) (by decide) (by decide) (fun T h8 v8 L8 X q8 => ?_)
  obtain ⟨rfl, Kc8, Bd8⟩ := q8
  have K20 : Keep h0 h8 [] := K18.trans Kc8 (fun x hx => by simp only [List.mem_cons, List.not_mem_nil, or_false] at hx; rcases hx with rfl | rfl <;> first | exact (Or.inr sz_b1) | exact (Or.inr sz_d7))
  replace Bd8 : Bld Z h8 b1 d7 (18 : Int32) [(.int 67), (.int 97), (.int 110), (.int 110), (.int 111), (.int 116), (.int 32), (.int 100), (.int 101), (.int 112), (.int 108), (.int 111), (.int 121), (.int 32), (.int x0), (.int x1), (.int 58), (.int 32), (.int 0), (.int 0), (.int 0), (.int 0), (.int 0), (.int 0), (.int 0), (.int 0), (.int 0), (.int 0), (.int 0), (.int 0), (.int 0), (.int 0), (.int 0), (.int 0)] := Bd8
  show Wp _ _ _ _ (T.setTop (mkF _ _ _ [(.ref b1)]))
  refine w_callV X q8_11_25 (wd_106 hw) (wd_107 hw) (nfs X.hZ (wd_109 hw)) (wd_109 hw) (wd_108 hw) (wd_40 hw) (wd_110 hw) (by decide) Bd8.1 (argsL := []) (S := []) (m_ts_18 hw hS ⟨Bd8.1, Bd8.2.1, Bd8.2.2.1, Bd8.2.2.2.1, Bd8.2.2.2.2⟩ rfl rfl) pd_29 rfl rfl rfl (by decide) (leR rfl) (by decide) (by decide) (fun T h9 v9 L9 X q9 => ?_)
  obtain ⟨r9, t9, rfl, ga9, gb9, gc9, gd9, Tx9, Kc9⟩ := q9
  have K21 : Keep h0 h9 [] := K20.trans Kc9 (fun x hx => nomatch hx)
  replace Tx9 : Lat Z h9 r9 t9 (0 : Int32) [(.int 67), (.int 97), (.int 110), (.int 110), (.int 111), (.int 116), (.int 32), (.int 100), (.int 101), (.int 112), (.int 108), (.int 111), (.int 121), (.int 32), (.int x0), (.int x1), (.int 58), (.int 32)] := Tx9
  show Wp _ _ _ _ (T.setTop (mkF _ _ _ [(.ref r9)]))
  have f22 := ((((((E3.keep Kc4).keep Kc5).ext Ex6).keep Kc7).keep Kc8).keep Kc9)
  have f23 := ((((((C3.keep Kc4 (ni2 ⟨n13, n33⟩)).keep Kc5 (ni2 ⟨n13, n33⟩)).ext Ex6).keep Kc7 (ni1 n13)).keep Kc8 (ni2 ⟨n13, (nel (ltl (ltl (ltl (ltl E3.lt Kc4.1) Kc5.1) Ex6.1) gt7))⟩)).keep Kc9 (List.not_mem_nil))
  have f24 := ((((((V3.keep Kc4 (ni2 ⟨n13, n33⟩)).keep Kc5 (ni2 ⟨n13, n33⟩)).ext Ex6).keep Kc7 (ni1 n13)).keep Kc8 (ni2 ⟨n13, (nel (ltl (ltl (ltl (ltl E3.lt Kc4.1) Kc5.1) Ex6.1) gt7))⟩)).keep Kc9 (List.not_mem_nil))
  have f25 := ((((((B3.keep Kc4 (ni2 ⟨n23, n43⟩)).keep Kc5 (ni2 ⟨n23, n43⟩)).ext Ex6).keep Kc7 (ni1 n23)).keep Kc8 (ni2 ⟨n23, (nel (ltl (ltl (ltl (ltl B3.lt Kc4.1) Kc5.1) Ex6.1) gt7))⟩)).keep Kc9 (List.not_mem_nil))
  have f26 := ((((((N3.1.keep Kc4).keep Kc5).ext Ex6).keep Kc7).keep Kc8).keep Kc9)
  exact g_retR X Y rfl (rfl) rfl q8_11_28 (fun vm' hW => ⟨_, _, rfl, Tx9, K21, own_EtF Gs.2.1 K21 N3.2.1 (fun us hus => N6.2.2.1 _ us (by decide) hus) hW.interned_eq ((N3.2.2.2.trans N6.2.2.2).trans hW.alike) (X.hZ.alike.trans hW.alike) ⟨by decide, rfl⟩ (wd_8 hw) ⟨f22, f23, f24, f25⟩ f26⟩) (by decide) (by decide)
theorem m_msg_2_1 (hw : own_hw a0 Z) {h0 : Heap} {zc : Int32} {fm : Value} {p1 p2 t1 t2 : Addr} {x0 x1 y0 : Int32} (hS : own_S Z zc fm) (hheld : ∀ p ∈ consts_1, Jvm.Lit.constHeld Z p.1 p.2) (hcw : Jvm.Lit.compactW.before a0 Z = true) (T1 : Lat Z h0 p1 t1 (0 : Int32) [(.int x0), (.int x1)]) (T2 : Lat Z h0 p2 t2 (0 : Int32) [(.int y0)]) :
    DoesG l Z n0 (own_G Z h0) ⟨"com/example/inflow/inflow/model/DeploymentException", "message", "(Ljava/lang/String;Ljava/lang/String;)Ljava/lang/String;"⟩ prog_8_method_11_code 2 (some (.object "java/lang/String")) [] { frames := 6, cells := 9, slots := 152, locals := 113 } #[(.ref p1), (.ref p2)] h0 (fun v h vm => ∃ a t, v = some (.ref a) ∧ Lat Z h a t (0 : Int32) [(.int 67), (.int 97), (.int 110), (.int 110), (.int 111), (.int 116), (.int 32), (.int 100), (.int 101), (.int 112), (.int 108), (.int 111), (.int 121), (.int 32), (.int x0), (.int x1), (.int 58), (.int 32), (.int y0)] ∧ Keep h0 h [] ∧ Et Z "Cannot deploy " h vm) := by
  refine DoesG.start (plainFor_of_name pn_9) ?_
  obtain ⟨S_zc, hzc, S_fm, hfm⟩ := id hS
  intro p e s m below meth c T X Y hs0 Gs
  replace X : Sd _ _ _ _ _ "com/example/inflow/inflow/model/DeploymentException" "message" _ _ _ _ _ _ _ _ _ _ _ _ _ _ _ _ := X
  refine Wp.cast (g' := mkF m 0 #[.val (.ref p1), .val (.ref p2)] []) (by first | (simp [entryFrame, mkF, argsToLocals, Value.category, maxLocals]; done) | rfl) ?_
  have hZ0 := X.old.2.2
  refine w_new X q8_11_0 (wd_38 hw) (wd_39 hw) (wd_40 hw) (by decide) (by decide) (fun T h1 b1 g1 gn1 X E1 A1 D1 => ?_)
  have sz_b1 : h0.size ≤ b1 := Nat.le_trans (Keep.refl h0 []).1 (Nat.le_of_eq g1.symm)
  have K1 : Keep h0 h1 [] := (Keep.refl h0 []).ext E1
  refine w_dup X q8_11_3 rfl ?_
  refine w_callI X q8_11_4 rfl (wd_41 hw) (wd_42 hw) (wd_40 hw) (wd_43 hw) (by decide) (argsL := []) (S := [(.ref b1)]) (m_sb hw hS gn1 A1 (show Fld Z h1 b1 "java/lang/AbstractStringBuilder" "value" "[B" .null from D1 (Or.inl (wd_53 hw)) (ty := (.array .byte)) (by decide)) (show Fld Z h1 b1 "java/lang/AbstractStringBuilder" "coder" "B" (.int 0) from D1 (Or.inl (wd_55 hw)) (ty := .byte) (by decide)) (show Fld Z h1 b1 "java/lang/AbstractStringBuilder" "count" "I" (.int 0) from D1 (Or.inl (wd_79 hw)) (ty := .int) (by decide))) pd_27 rfl rfl rfl (by decide) (leR rfl) (by decide) (by decide) (fun T h2 v2 L2 X q2 => ?_)
  obtain ⟨rfl, Kc2, d2, gt2, gn2, Bd2, Ed2⟩ := q2
  have K2 : Keep h0 h2 [] := K1.trans Kc2 (fun x hx => by cases List.mem_singleton.mp hx; exact (Or.inr sz_b1))
  have sz_d2 : h0.size ≤ d2 := Nat.le_trans K1.1 gt2
  replace Bd2 : Bld Z h2 b1 d2 (0 : Int32) [(.int 0), (.int 0), (.int 0), (.int 0), (.int 0), (.int 0), (.int 0), (.int 0), (.int 0), (.int 0), (.int 0), (.int 0), (.int 0), (.int 0), (.int 0), (.int 0)] := Bd2
  show Wp _ _ _ _ (T.setTop (mkF _ _ _ [(.ref b1)]))
  refine v_ldcX X Y q8_11_7 (wd_56 hw) (own_wS hw) (by rw [hs0]; exact fun b c r => K2.2.1 b c r List.not_mem_nil) (by rw [hs0]; exact hZ0) (by rw [hs0]; exact Gs.2.1) (Gs.2.1.keep K2) (hheld _ (List.mem_of_getElem? (i := 0) rfl)) hcw [(.int 67), (.int 97), (.int 110), (.int 110), (.int 111), (.int 116), (.int 32), (.int 100), (.int 101), (.int 112), (.int 108), (.int 111), (.int 121), (.int 32)] (by decide) 56 (by decide) (by decide) (by decide) (by decide) (fun T h3 u kk a3 b3 X Y Ex3 E3 C3 V3 B3 M3 O3 L3 N3 => ?_)
  have K3 : Keep h0 h3 [] := K2.ext Ex3
  have f4 := (Bd2.1.ext Ex3)
  have n13 : a3 ≠ b1 := own_neC E3 f4 (by decide)
  have n23 : b3 ≠ b1 := Ne.symm (own_ane f4 (wd_39 hw) B3)
  have f5 := (Bd2.2.2.2.2.ext Ex3)
  have n33 : a3 ≠ d2 := own_ane E3 (wd_8 hw) f5
  have n43 : b3 ≠ d2 := own_aryNe B3 f5 (by decide)
  have f6 := (Bd2.2.1.ext Ex3)
  have f7 := (Bd2.2.2.1.ext Ex3)
  have f8 := (Bd2.2.2.2.1.ext Ex3)
  refine w_callV X q8_11_9 (wd_57 hw) (wd_58 hw) (nfs X.hZ (wd_60 hw)) (wd_60 hw) (wd_59 hw) (wd_40 hw) (wd_61 hw) (by decide) f4 (argsL := [(.ref a3)]) (S := []) (m_app hw hS gn1 gn2 ⟨f4, f6, f7, f8, f5⟩ ⟨E3, C3, V3, B3⟩ (k := (0 : Int32)) (n := (14 : Int32)) (cp := (16 : Int32)) rfl (by decide) rfl (by decide) (leR rfl)) pd_28 rfl rfl rfl (by decide) (leR rfl) (by decide) (by decide) (fun T h4 v4 L4 X q4 => ?_)
  obtain ⟨rfl, Kc4, Bd4⟩ := q4
  have K9 : Keep h0 h4 [] := K3.trans Kc4 (fun x hx => by simp only [List.mem_cons, List.not_mem_nil, or_false] at hx; rcases hx with rfl | rfl <;> first | exact (Or.inr sz_b1) | exact (Or.inr sz_d2))
  replace Bd4 : Bld Z h4 b1 d2 (14 : Int32) [(.int 67), (.int 97), (.int 110), (.int 110), (.int 111), (.int 116), (.int 32), (.int 100), (.int 101), (.int 112), (.int 108), (.int 111), (.int 121), (.int 32), (.int 0), (.int 0)] := Bd4
  show Wp _ _ _ _ (T.setTop (mkF _ _ _ [(.ref b1)]))
  refine w_aloadN X q8_11_12 rfl (rfl) ?_
  have f10 := ((((T1.ext E1).keep Kc2 (ni1 (nel (ltl T1.1.lt (Nat.le_of_eq g1.symm)))) (ni1 (nel (ltl T1.2.2.2.lt (Nat.le_of_eq g1.symm))))).ext Ex3).keep Kc4 (ni2 ⟨(nel (ltl T1.1.lt (Nat.le_of_eq g1.symm))), (nel (ltl (ltl T1.1.lt E1.1) gt2))⟩) (ni2 ⟨(nel (ltl T1.2.2.2.lt (Nat.le_of_eq g1.symm))), (nel (ltl (ltl T1.2.2.2.lt E1.1) gt2))⟩))
  refine w_callV X q8_11_13 (wd_57 hw) (wd_58 hw) (nfs X.hZ (wd_60 hw)) (wd_60 hw) (wd_59 hw) (wd_40 hw) (wd_61 hw) (by decide) Bd4.1 (argsL := [(.ref p1)]) (S := []) (m_app hw hS gn1 gn2 ⟨Bd4.1, Bd4.2.1, Bd4.2.2.1, Bd4.2.2.2.1, Bd4.2.2.2.2⟩ f10 (k := (14 : Int32)) (n := (2 : Int32)) (cp := (16 : Int32)) rfl (by decide) rfl (by decide) (leR rfl)) pd_28 rfl rfl rfl (by decide) (leR rfl) (by decide) (by decide) (fun T h5 v5 L5 X q5 => ?_)
  obtain ⟨rfl, Kc5, Bd5⟩ := q5
  have K11 : Keep h0 h5 [] := K9.trans Kc5 (fun x hx => by simp only [List.mem_cons, List.not_mem_nil, or_false] at hx; rcases hx with rfl | rfl <;> first | exact (Or.inr sz_b1) | exact (Or.inr sz_d2))
  replace Bd5 : Bld Z h5 b1 d2 (16 : Int32) [(.int 67), (.int 97), (.int 110), (.int 110), (.int 111), (.int 116), (.int 32), (.int 100), (.int 101), (.int 112), (.int 108), (.int 111), (.int 121), (.int 32), (.int x0), (.int x1)] := Bd5
  show Wp _ _ _ _ (T.setTop (mkF _ _ _ [(.ref b1)]))
  refine v_ldcX X Y q8_11_16 (wd_105 hw) (own_wS hw) (by rw [hs0]; exact fun b c r => K11.2.1 b c r List.not_mem_nil) (by rw [hs0]; exact hZ0) (by rw [hs0]; exact own_EtO Gs.2.2 (Keep.refl _ _) (fun us hus => N3.2.2.1 _ us (by decide) hus) N3.2.2.2) (own_EtO Gs.2.2 K11 (fun us hus => N3.2.2.1 _ us (by decide) hus) N3.2.2.2) (hheld _ (List.mem_of_getElem? (i := 1) rfl)) hcw [(.int 58), (.int 32)] (by decide) 8 (by decide) (by decide) (by decide) (by decide) (fun T h6 u kk a6 b6 X Y Ex6 E6 C6 V6 B6 M6 O6 L6 N6 => ?_)
  have K12 : Keep h0 h6 [] := K11.ext Ex6
  have f13 := (Bd5.1.ext Ex6)
  have f14 := (Bd5.2.1.ext Ex6)
  have f15 := (Bd5.2.2.1.ext Ex6)
  have f16 := (Bd5.2.2.2.1.ext Ex6)
  have f17 := (Bd5.2.2.2.2.ext Ex6)
  refine w_callV X q8_11_18 (wd_57 hw) (wd_58 hw) (nfs X.hZ (wd_60 hw)) (wd_60 hw) (wd_59 hw) (wd_40 hw) (wd_61 hw) (by decide) f13 (argsL := [(.ref a6)]) (S := []) (m_apg_16_2 hw hS gn1 gn2 ⟨f13, f14, f15, f16, f17⟩ ⟨E6, C6, V6, B6⟩ rfl rfl rfl rfl) pd_28 rfl rfl rfl (by decide) (leR rfl) (by decide) (by decide) (fun T h7 v7 L7 X q7 => ?_)
  obtain ⟨rfl, Kc7, d7, gt7, gn7, Bd7, Ed7⟩ := q7
  have K18 : Keep h0 h7 [] := K12.trans Kc7 (fun x hx => by cases List.mem_singleton.mp hx; exact (Or.inr sz_b1))
  have sz_d7 : h0.size ≤ d7 := Nat.le_trans K12.1 gt7
  replace Bd7 : Bld Z h7 b1 d7 (18 : Int32) [(.int 67), (.int 97), (.int 110), (.int 110), (.int 111), (.int 116), (.int 32), (.int 100), (.int 101), (.int 112), (.int 108), (.int 111), (.int 121), (.int 32), (.int x0), (.int x1), (.int 58), (.int 32), (.int 0), (.int 0), (.int 0), (.int 0), (.int 0), (.int 0), (.int 0), (.int 0), (.int 0), (.int 0), (.int 0), (.int 0), (.int 0), (.int 0), (.int 0), (.int 0)] := Bd7
  show Wp _ _ _ _ (T.setTop (mkF _ _ _ [(.ref b1)]))
  refine w_aloadN X q8_11_21 rfl (rfl) ?_
  have f19 := (((((((T2.ext E1).keep Kc2 (ni1 (nel (ltl T2.1.lt (Nat.le_of_eq g1.symm)))) (ni1 (nel (ltl T2.2.2.2.lt (Nat.le_of_eq g1.symm))))).ext Ex3).keep Kc4 (ni2 ⟨(nel (ltl T2.1.lt (Nat.le_of_eq g1.symm))), (nel (ltl (ltl T2.1.lt E1.1) gt2))⟩) (ni2 ⟨(nel (ltl T2.2.2.2.lt (Nat.le_of_eq g1.symm))), (nel (ltl (ltl T2.2.2.2.lt E1.1) gt2))⟩)).keep Kc5 (ni2 ⟨(nel (ltl T2.1.lt (Nat.le_of_eq g1.symm))), (nel (ltl (ltl T2.1.lt E1.1) gt2))⟩) (ni2 ⟨(nel (ltl T2.2.2.2.lt (Nat.le_of_eq g1.symm))), (nel (ltl (ltl T2.2.2.2.lt E1.1) gt2))⟩)).ext Ex6).keep Kc7 (ni1 (nel (ltl T2.1.lt (Nat.le_of_eq g1.symm)))) (ni1 (nel (ltl T2.2.2.2.lt (Nat.le_of_eq g1.symm)))))
  refine w_callV X q8_11_22 (wd_57 hw) (wd_58 hw) (nfs X.hZ (wd_60 hw)) (wd_60 hw) (wd_59 hw) (wd_40 hw) (wd_61 hw) (by decide) Bd7.1 (argsL := [(.ref p2)]) (S := []) (m_app hw hS gn1 gn7 ⟨Bd7.1, Bd7.2.1, Bd7.2.2.1, Bd7.2.2.2.1, Bd7.2.2.2.2⟩ f19 (k := (18 : Int32)) (n := (1 : Int32)) (cp := (34 : Int32)) rfl (by decide) rfl (by decide) (leR rfl)) pd_28 rfl rfl rfl (by decide) (leR rfl) (by decide) (by decide) (fun T h8 v8 L8 X q8 => ?_)
  obtain ⟨rfl, Kc8, Bd8⟩ := q8
  have K20 : Keep h0 h8 [] := K18.trans Kc8 (fun x hx => by simp only [List.mem_cons, List.not_mem_nil, or_false] at hx; rcases hx with rfl | rfl <;> first | exact (Or.inr sz_b1) | exact (Or.inr sz_d7))
  replace Bd8 : Bld Z h8 b1 d7 (19 : Int32) [(.int 67), (.int 97), (.int 110), (.int 110), (.int 111), (.int 116), (.int 32), (.int 100), (.int 101), (.int 112), (.int 108), (.int 111), (.int 121), (.int 32), (.int x0), (.int x1), (.int 58), (.int 32), (.int y0), (.int 0), (.int 0), (.int 0), (.int 0), (.int 0), (.int 0), (.int 0), (.int 0), (.int 0), (.int 0), (.int 0), (.int 0), (.int 0), (.int 0), (.int 0)] := Bd8
  show Wp _ _ _ _ (T.setTop (mkF _ _ _ [(.ref b1)]))
  refine w_callV X q8_11_25 (wd_106 hw) (wd_107 hw) (nfs X.hZ (wd_109 hw)) (wd_109 hw) (wd_108 hw) (wd_40 hw) (wd_110 hw) (by decide) Bd8.1 (argsL := []) (S := []) (m_ts_19 hw hS ⟨Bd8.1, Bd8.2.1, Bd8.2.2.1, Bd8.2.2.2.1, Bd8.2.2.2.2⟩ rfl rfl) pd_29 rfl rfl rfl (by decide) (leR rfl) (by decide) (by decide) (fun T h9 v9 L9 X q9 => ?_)
  obtain ⟨r9, t9, rfl, ga9, gb9, gc9, gd9, Tx9, Kc9⟩ := q9
  have K21 : Keep h0 h9 [] := K20.trans Kc9 (fun x hx => nomatch hx)
  replace Tx9 : Lat Z h9 r9 t9 (0 : Int32) [(.int 67), (.int 97), (.int 110), (.int 110), (.int 111), (.int 116), (.int 32), (.int 100), (.int 101), (.int 112), (.int 108), (.int 111), (.int 121), (.int 32), (.int x0), (.int x1), (.int 58), (.int 32), (.int y0)] := Tx9
  show Wp _ _ _ _ (T.setTop (mkF _ _ _ [(.ref r9)]))
  have f22 := ((((((E3.keep Kc4).keep Kc5).ext Ex6).keep Kc7).keep Kc8).keep Kc9)
  have f23 := ((((((C3.keep Kc4 (ni2 ⟨n13, n33⟩)).keep Kc5 (ni2 ⟨n13, n33⟩)).ext Ex6).keep Kc7 (ni1 n13)).keep Kc8 (ni2 ⟨n13, (nel (ltl (ltl (ltl (ltl E3.lt Kc4.1) Kc5.1) Ex6.1) gt7))⟩)).keep Kc9 (List.not_mem_nil))
  have f24 := ((((((V3.keep Kc4 (ni2 ⟨n13, n33⟩)).keep Kc5 (ni2 ⟨n13, n33⟩)).ext Ex6).keep Kc7 (ni1 n13)).keep Kc8 (ni2 ⟨n13, (nel (ltl (ltl (ltl (ltl E3.lt Kc4.1) Kc5.1) Ex6.1) gt7))⟩)).keep Kc9 (List.not_mem_nil))
  have f25 := ((((((B3.keep Kc4 (ni2 ⟨n23, n43⟩)).keep Kc5 (ni2 ⟨n23, n43⟩)).ext Ex6).keep Kc7 (ni1 n23)).keep Kc8 (ni2 ⟨n23, (nel (ltl (ltl (ltl (ltl B3.lt Kc4.1) Kc5.1) Ex6.1) gt7))⟩)).keep Kc9 (List.not_mem_nil))
  have f26 := ((((((N3.1.keep Kc4).keep Kc5).ext Ex6).keep Kc7).keep Kc8).keep Kc9)
  exact g_retR X Y rfl (rfl) rfl q8_11_28 (fun vm' hW => ⟨_, _, rfl, Tx9, K21, own_EtF Gs.2.1 K21 N3.2.1 (fun us hus => N6.2.2.1 _ us (by decide) hus) hW.interned_eq ((N3.2.2.2.trans N6.2.2.2).trans hW.alike) (X.hZ.alike.trans hW.alike) ⟨by decide, rfl⟩ (wd_8 hw) ⟨f22, f23, f24, f25⟩ f26⟩) (by decide) (by decide)
theorem m_msg_2_2 (hw : own_hw a0 Z) {h0 : Heap} {zc : Int32} {fm : Value} {p1 p2 t1 t2 : Addr} {x0 x1 y0 y1 : Int32} (hS : own_S Z zc fm) (hheld : ∀ p ∈ consts_1, Jvm.Lit.constHeld Z p.1 p.2) (hcw : Jvm.Lit.compactW.before a0 Z = true) (T1 : Lat Z h0 p1 t1 (0 : Int32) [(.int x0), (.int x1)]) (T2 : Lat Z h0 p2 t2 (0 : Int32) [(.int y0), (.int y1)]) :
    DoesG l Z n0 (own_G Z h0) ⟨"com/example/inflow/inflow/model/DeploymentException", "message", "(Ljava/lang/String;Ljava/lang/String;)Ljava/lang/String;"⟩ prog_8_method_11_code 2 (some (.object "java/lang/String")) [] { frames := 6, cells := 9, slots := 152, locals := 113 } #[(.ref p1), (.ref p2)] h0 (fun v h vm => ∃ a t, v = some (.ref a) ∧ Lat Z h a t (0 : Int32) [(.int 67), (.int 97), (.int 110), (.int 110), (.int 111), (.int 116), (.int 32), (.int 100), (.int 101), (.int 112), (.int 108), (.int 111), (.int 121), (.int 32), (.int x0), (.int x1), (.int 58), (.int 32), (.int y0), (.int y1)] ∧ Keep h0 h [] ∧ Et Z "Cannot deploy " h vm) := by
  refine DoesG.start (plainFor_of_name pn_9) ?_
  obtain ⟨S_zc, hzc, S_fm, hfm⟩ := id hS
  intro p e s m below meth c T X Y hs0 Gs
  replace X : Sd _ _ _ _ _ "com/example/inflow/inflow/model/DeploymentException" "message" _ _ _ _ _ _ _ _ _ _ _ _ _ _ _ _ := X
  refine Wp.cast (g' := mkF m 0 #[.val (.ref p1), .val (.ref p2)] []) (by first | (simp [entryFrame, mkF, argsToLocals, Value.category, maxLocals]; done) | rfl) ?_
  have hZ0 := X.old.2.2
  refine w_new X q8_11_0 (wd_38 hw) (wd_39 hw) (wd_40 hw) (by decide) (by decide) (fun T h1 b1 g1 gn1 X E1 A1 D1 => ?_)
  have sz_b1 : h0.size ≤ b1 := Nat.le_trans (Keep.refl h0 []).1 (Nat.le_of_eq g1.symm)
  have K1 : Keep h0 h1 [] := (Keep.refl h0 []).ext E1
  refine w_dup X q8_11_3 rfl ?_
  refine w_callI X q8_11_4 rfl (wd_41 hw) (wd_42 hw) (wd_40 hw) (wd_43 hw) (by decide) (argsL := []) (S := [(.ref b1)]) (m_sb hw hS gn1 A1 (show Fld Z h1 b1 "java/lang/AbstractStringBuilder" "value" "[B" .null from D1 (Or.inl (wd_53 hw)) (ty := (.array .byte)) (by decide)) (show Fld Z h1 b1 "java/lang/AbstractStringBuilder" "coder" "B" (.int 0) from D1 (Or.inl (wd_55 hw)) (ty := .byte) (by decide)) (show Fld Z h1 b1 "java/lang/AbstractStringBuilder" "count" "I" (.int 0) from D1 (Or.inl (wd_79 hw)) (ty := .int) (by decide))) pd_27 rfl rfl rfl (by decide) (leR rfl) (by decide) (by decide) (fun T h2 v2 L2 X q2 => ?_)
  obtain ⟨rfl, Kc2, d2, gt2, gn2, Bd2, Ed2⟩ := q2
  have K2 : Keep h0 h2 [] := K1.trans Kc2 (fun x hx => by cases List.mem_singleton.mp hx; exact (Or.inr sz_b1))
  have sz_d2 : h0.size ≤ d2 := Nat.le_trans K1.1 gt2
  replace Bd2 : Bld Z h2 b1 d2 (0 : Int32) [(.int 0), (.int 0), (.int 0), (.int 0), (.int 0), (.int 0), (.int 0), (.int 0), (.int 0), (.int 0), (.int 0), (.int 0), (.int 0), (.int 0), (.int 0), (.int 0)] := Bd2
  show Wp _ _ _ _ (T.setTop (mkF _ _ _ [(.ref b1)]))
  refine v_ldcX X Y q8_11_7 (wd_56 hw) (own_wS hw) (by rw [hs0]; exact fun b c r => K2.2.1 b c r List.not_mem_nil) (by rw [hs0]; exact hZ0) (by rw [hs0]; exact Gs.2.1) (Gs.2.1.keep K2) (hheld _ (List.mem_of_getElem? (i := 0) rfl)) hcw [(.int 67), (.int 97), (.int 110), (.int 110), (.int 111), (.int 116), (.int 32), (.int 100), (.int 101), (.int 112), (.int 108), (.int 111), (.int 121), (.int 32)] (by decide) 56 (by decide) (by decide) (by decide) (by decide) (fun T h3 u kk a3 b3 X Y Ex3 E3 C3 V3 B3 M3 O3 L3 N3 => ?_)
  have K3 : Keep h0 h3 [] := K2.ext Ex3
  have f4 := (Bd2.1.ext Ex3)
  have n13 : a3 ≠ b1 := own_neC E3 f4 (by decide)
  have n23 : b3 ≠ b1 := Ne.symm (own_ane f4 (wd_39 hw) B3)
  have f5 := (Bd2.2.2.2.2.ext Ex3)
  have n33 : a3 ≠ d2 := own_ane E3 (wd_8 hw) f5
  have n43 : b3 ≠ d2 := own_aryNe B3 f5 (by decide)
  have f6 := (Bd2.2.1.ext Ex3)
  have f7 := (Bd2.2.2.1.ext Ex3)
  have f8 := (Bd2.2.2.2.1.ext Ex3)
  refine w_callV X q8_11_9 (wd_57 hw) (wd_58 hw) (nfs X.hZ (wd_60 hw)) (wd_60 hw) (wd_59 hw) (wd_40 hw) (wd_61 hw) (by decide) f4 (argsL := [(.ref a3)]) (S := []) (m_app hw hS gn1 gn2 ⟨f4, f6, f7, f8, f5⟩ ⟨E3, C3, V3, B3⟩ (k := (0 : Int32)) (n := (14 : Int32)) (cp := (16 : Int32)) rfl (by decide) rfl (by decide) (leR rfl)) pd_28 rfl rfl rfl (by decide) (leR rfl) (by decide) (by decide) (fun T h4 v4 L4 X q4 => ?_)
  obtain ⟨rfl, Kc4, Bd4⟩ := q4
  have K9 : Keep h0 h4 [] := K3.trans Kc4 (fun x hx => by simp only [List.mem_cons, List.not_mem_nil, or_false] at hx; rcases hx with rfl | rfl <;> first | exact (Or.inr sz_b1) | exact (Or.inr sz_d2))
  replace Bd4 : Bld Z h4 b1 d2 (14 : Int32) [(.int 67), (.int 97), (.int 110), (.int 110), (.int 111), (.int 116), (.int 32), (.int 100), (.int 101), (.int 112), (.int 108), (.int 111), (.int 121), (.int 32), (.int 0), (.int 0)] := Bd4
  show Wp _ _ _ _ (T.setTop (mkF _ _ _ [(.ref b1)]))
  refine w_aloadN X q8_11_12 rfl (rfl) ?_
  have f10 := ((((T1.ext E1).keep Kc2 (ni1 (nel (ltl T1.1.lt (Nat.le_of_eq g1.symm)))) (ni1 (nel (ltl T1.2.2.2.lt (Nat.le_of_eq g1.symm))))).ext Ex3).keep Kc4 (ni2 ⟨(nel (ltl T1.1.lt (Nat.le_of_eq g1.symm))), (nel (ltl (ltl T1.1.lt E1.1) gt2))⟩) (ni2 ⟨(nel (ltl T1.2.2.2.lt (Nat.le_of_eq g1.symm))), (nel (ltl (ltl T1.2.2.2.lt E1.1) gt2))⟩))
  refine w_callV X q8_11_13 (wd_57 hw) (wd_58 hw) (nfs X.hZ (wd_60 hw)) (wd_60 hw) (wd_59 hw) (wd_40 hw) (wd_61 hw) (by decide) Bd4.1 (argsL := [(.ref p1)]) (S := []) (m_app hw hS gn1 gn2 ⟨Bd4.1, Bd4.2.1, Bd4.2.2.1, Bd4.2.2.2.1, Bd4.2.2.2.2⟩ f10 (k := (14 : Int32)) (n := (2 : Int32)) (cp := (16 : Int32)) rfl (by decide) rfl (by decide) (leR rfl)) pd_28 rfl rfl rfl (by decide) (leR rfl) (by decide) (by decide) (fun T h5 v5 L5 X q5 => ?_)
  obtain ⟨rfl, Kc5, Bd5⟩ := q5
  have K11 : Keep h0 h5 [] := K9.trans Kc5 (fun x hx => by simp only [List.mem_cons, List.not_mem_nil, or_false] at hx; rcases hx with rfl | rfl <;> first | exact (Or.inr sz_b1) | exact (Or.inr sz_d2))
  replace Bd5 : Bld Z h5 b1 d2 (16 : Int32) [(.int 67), (.int 97), (.int 110), (.int 110), (.int 111), (.int 116), (.int 32), (.int 100), (.int 101), (.int 112), (.int 108), (.int 111), (.int 121), (.int 32), (.int x0), (.int x1)] := Bd5
  show Wp _ _ _ _ (T.setTop (mkF _ _ _ [(.ref b1)]))
  refine v_ldcX X Y q8_11_16 (wd_105 hw) (own_wS hw) (by rw [hs0]; exact fun b c r => K11.2.1 b c r List.not_mem_nil) (by rw [hs0]; exact hZ0) (by rw [hs0]; exact own_EtO Gs.2.2 (Keep.refl _ _) (fun us hus => N3.2.2.1 _ us (by decide) hus) N3.2.2.2) (own_EtO Gs.2.2 K11 (fun us hus => N3.2.2.1 _ us (by decide) hus) N3.2.2.2) (hheld _ (List.mem_of_getElem? (i := 1) rfl)) hcw [(.int 58), (.int 32)] (by decide) 8 (by decide) (by decide) (by decide) (by decide) (fun T h6 u kk a6 b6 X Y Ex6 E6 C6 V6 B6 M6 O6 L6 N6 => ?_)
  have K12 : Keep h0 h6 [] := K11.ext Ex6
  have f13 := (Bd5.1.ext Ex6)
  have f14 := (Bd5.2.1.ext Ex6)
  have f15 := (Bd5.2.2.1.ext Ex6)
  have f16 := (Bd5.2.2.2.1.ext Ex6)
  have f17 := (Bd5.2.2.2.2.ext Ex6)
  refine w_callV X q8_11_18 (wd_57 hw) (wd_58 hw) (nfs X.hZ (wd_60 hw)) (wd_60 hw) (wd_59 hw) (wd_40 hw) (wd_61 hw) (by decide) f13 (argsL := [(.ref a6)]) (S := []) (m_apg_16_2 hw hS gn1 gn2 ⟨f13, f14, f15, f16, f17⟩ ⟨E6, C6, V6, B6⟩ rfl rfl rfl rfl) pd_28 rfl rfl rfl (by decide) (leR rfl) (by decide) (by decide) (fun T h7 v7 L7 X q7 => ?_)
  obtain ⟨rfl, Kc7, d7, gt7, gn7, Bd7, Ed7⟩ := q7
  have K18 : Keep h0 h7 [] := K12.trans Kc7 (fun x hx => by cases List.mem_singleton.mp hx; exact (Or.inr sz_b1))
  have sz_d7 : h0.size ≤ d7 := Nat.le_trans K12.1 gt7
  replace Bd7 : Bld Z h7 b1 d7 (18 : Int32) [(.int 67), (.int 97), (.int 110), (.int 110), (.int 111), (.int 116), (.int 32), (.int 100), (.int 101), (.int 112), (.int 108), (.int 111), (.int 121), (.int 32), (.int x0), (.int x1), (.int 58), (.int 32), (.int 0), (.int 0), (.int 0), (.int 0), (.int 0), (.int 0), (.int 0), (.int 0), (.int 0), (.int 0), (.int 0), (.int 0), (.int 0), (.int 0), (.int 0), (.int 0)] := Bd7
  show Wp _ _ _ _ (T.setTop (mkF _ _ _ [(.ref b1)]))
  refine w_aloadN X q8_11_21 rfl (rfl) ?_
  have f19 := (((((((T2.ext E1).keep Kc2 (ni1 (nel (ltl T2.1.lt (Nat.le_of_eq g1.symm)))) (ni1 (nel (ltl T2.2.2.2.lt (Nat.le_of_eq g1.symm))))).ext Ex3).keep Kc4 (ni2 ⟨(nel (ltl T2.1.lt (Nat.le_of_eq g1.symm))), (nel (ltl (ltl T2.1.lt E1.1) gt2))⟩) (ni2 ⟨(nel (ltl T2.2.2.2.lt (Nat.le_of_eq g1.symm))), (nel (ltl (ltl T2.2.2.2.lt E1.1) gt2))⟩)).keep Kc5 (ni2 ⟨(nel (ltl T2.1.lt (Nat.le_of_eq g1.symm))), (nel (ltl (ltl T2.1.lt E1.1) gt2))⟩) (ni2 ⟨(nel (ltl T2.2.2.2.lt (Nat.le_of_eq g1.symm))), (nel (ltl (ltl T2.2.2.2.lt E1.1) gt2))⟩)).ext Ex6).keep Kc7 (ni1 (nel (ltl T2.1.lt (Nat.le_of_eq g1.symm)))) (ni1 (nel (ltl T2.2.2.2.lt (Nat.le_of_eq g1.symm)))))
  refine w_callV X q8_11_22 (wd_57 hw) (wd_58 hw) (nfs X.hZ (wd_60 hw)) (wd_60 hw) (wd_59 hw) (wd_40 hw) (wd_61 hw) (by decide) Bd7.1 (argsL := [(.ref p2)]) (S := []) (m_app hw hS gn1 gn7 ⟨Bd7.1, Bd7.2.1, Bd7.2.2.1, Bd7.2.2.2.1, Bd7.2.2.2.2⟩ f19 (k := (18 : Int32)) (n := (2 : Int32)) (cp := (34 : Int32)) rfl (by decide) rfl (by decide) (leR rfl)) pd_28 rfl rfl rfl (by decide) (leR rfl) (by decide) (by decide) (fun T h8 v8 L8 X q8 => ?_)
  obtain ⟨rfl, Kc8, Bd8⟩ := q8
  have K20 : Keep h0 h8 [] := K18.trans Kc8 (fun x hx => by simp only [List.mem_cons, List.not_mem_nil, or_false] at hx; rcases hx with rfl | rfl <;> first | exact (Or.inr sz_b1) | exact (Or.inr sz_d7))
  replace Bd8 : Bld Z h8 b1 d7 (20 : Int32) [(.int 67), (.int 97), (.int 110), (.int 110), (.int 111), (.int 116), (.int 32), (.int 100), (.int 101), (.int 112), (.int 108), (.int 111), (.int 121), (.int 32), (.int x0), (.int x1), (.int 58), (.int 32), (.int y0), (.int y1), (.int 0), (.int 0), (.int 0), (.int 0), (.int 0), (.int 0), (.int 0), (.int 0), (.int 0), (.int 0), (.int 0), (.int 0), (.int 0), (.int 0)] := Bd8
  show Wp _ _ _ _ (T.setTop (mkF _ _ _ [(.ref b1)]))
  refine w_callV X q8_11_25 (wd_106 hw) (wd_107 hw) (nfs X.hZ (wd_109 hw)) (wd_109 hw) (wd_108 hw) (wd_40 hw) (wd_110 hw) (by decide) Bd8.1 (argsL := []) (S := []) (m_ts_20 hw hS ⟨Bd8.1, Bd8.2.1, Bd8.2.2.1, Bd8.2.2.2.1, Bd8.2.2.2.2⟩ rfl rfl) pd_29 rfl rfl rfl (by decide) (leR rfl) (by decide) (by decide) (fun T h9 v9 L9 X q9 => ?_)
  obtain ⟨r9, t9, rfl, ga9, gb9, gc9, gd9, Tx9, Kc9⟩ := q9
  have K21 : Keep h0 h9 [] := K20.trans Kc9 (fun x hx => nomatch hx)
  replace Tx9 : Lat Z h9 r9 t9 (0 : Int32) [(.int 67), (.int 97), (.int 110), (.int 110), (.int 111), (.int 116), (.int 32), (.int 100), (.int 101), (.int 112), (.int 108), (.int 111), (.int 121), (.int 32), (.int x0), (.int x1), (.int 58), (.int 32), (.int y0), (.int y1)] := Tx9
  show Wp _ _ _ _ (T.setTop (mkF _ _ _ [(.ref r9)]))
  have f22 := ((((((E3.keep Kc4).keep Kc5).ext Ex6).keep Kc7).keep Kc8).keep Kc9)
  have f23 := ((((((C3.keep Kc4 (ni2 ⟨n13, n33⟩)).keep Kc5 (ni2 ⟨n13, n33⟩)).ext Ex6).keep Kc7 (ni1 n13)).keep Kc8 (ni2 ⟨n13, (nel (ltl (ltl (ltl (ltl E3.lt Kc4.1) Kc5.1) Ex6.1) gt7))⟩)).keep Kc9 (List.not_mem_nil))
  have f24 := ((((((V3.keep Kc4 (ni2 ⟨n13, n33⟩)).keep Kc5 (ni2 ⟨n13, n33⟩)).ext Ex6).keep Kc7 (ni1 n13)).keep Kc8 (ni2 ⟨n13, (nel (ltl (ltl (ltl (ltl E3.lt Kc4.1) Kc5.1) Ex6.1) gt7))⟩)).keep Kc9 (List.not_mem_nil))
  have f25 := ((((((B3.keep Kc4 (ni2 ⟨n23, n43⟩)).keep Kc5 (ni2 ⟨n23, n43⟩)).ext Ex6).keep Kc7 (ni1 n23)).keep Kc8 (ni2 ⟨n23, (nel (ltl (ltl (ltl (ltl B3.lt Kc4.1) Kc5.1) Ex6.1) gt7))⟩)).keep Kc9 (List.not_mem_nil))
  have f26 := ((((((N3.1.keep Kc4).keep Kc5).ext Ex6).keep Kc7).keep Kc8).keep Kc9)
  exact g_retR X Y rfl (rfl) rfl q8_11_28 (fun vm' hW => ⟨_, _, rfl, Tx9, K21, own_EtF Gs.2.1 K21 N3.2.1 (fun us hus => N6.2.2.1 _ us (by decide) hus) hW.interned_eq ((N3.2.2.2.trans N6.2.2.2).trans hW.alike) (X.hZ.alike.trans hW.alike) ⟨by decide, rfl⟩ (wd_8 hw) ⟨f22, f23, f24, f25⟩ f26⟩) (by decide) (by decide)
theorem m_msg_2_3 (hw : own_hw a0 Z) {h0 : Heap} {zc : Int32} {fm : Value} {p1 p2 t1 t2 : Addr} {x0 x1 y0 y1 y2 : Int32} (hS : own_S Z zc fm) (hheld : ∀ p ∈ consts_1, Jvm.Lit.constHeld Z p.1 p.2) (hcw : Jvm.Lit.compactW.before a0 Z = true) (T1 : Lat Z h0 p1 t1 (0 : Int32) [(.int x0), (.int x1)]) (T2 : Lat Z h0 p2 t2 (0 : Int32) [(.int y0), (.int y1), (.int y2)]) :
    DoesG l Z n0 (own_G Z h0) ⟨"com/example/inflow/inflow/model/DeploymentException", "message", "(Ljava/lang/String;Ljava/lang/String;)Ljava/lang/String;"⟩ prog_8_method_11_code 2 (some (.object "java/lang/String")) [] { frames := 6, cells := 9, slots := 152, locals := 113 } #[(.ref p1), (.ref p2)] h0 (fun v h vm => ∃ a t, v = some (.ref a) ∧ Lat Z h a t (0 : Int32) [(.int 67), (.int 97), (.int 110), (.int 110), (.int 111), (.int 116), (.int 32), (.int 100), (.int 101), (.int 112), (.int 108), (.int 111), (.int 121), (.int 32), (.int x0), (.int x1), (.int 58), (.int 32), (.int y0), (.int y1), (.int y2)] ∧ Keep h0 h [] ∧ Et Z "Cannot deploy " h vm) := by
  refine DoesG.start (plainFor_of_name pn_9) ?_
  obtain ⟨S_zc, hzc, S_fm, hfm⟩ := id hS
  intro p e s m below meth c T X Y hs0 Gs
  replace X : Sd _ _ _ _ _ "com/example/inflow/inflow/model/DeploymentException" "message" _ _ _ _ _ _ _ _ _ _ _ _ _ _ _ _ := X
  refine Wp.cast (g' := mkF m 0 #[.val (.ref p1), .val (.ref p2)] []) (by first | (simp [entryFrame, mkF, argsToLocals, Value.category, maxLocals]; done) | rfl) ?_
  have hZ0 := X.old.2.2
  refine w_new X q8_11_0 (wd_38 hw) (wd_39 hw) (wd_40 hw) (by decide) (by decide) (fun T h1 b1 g1 gn1 X E1 A1 D1 => ?_)
  have sz_b1 : h0.size ≤ b1 := Nat.le_trans (Keep.refl h0 []).1 (Nat.le_of_eq g1.symm)
  have K1 : Keep h0 h1 [] := (Keep.refl h0 []).ext E1
  refine w_dup X q8_11_3 rfl ?_
  refine w_callI X q8_11_4 rfl (wd_41 hw) (wd_42 hw) (wd_40 hw) (wd_43 hw) (by decide) (argsL := []) (S := [(.ref b1)]) (m_sb hw hS gn1 A1 (show Fld Z h1 b1 "java/lang/AbstractStringBuilder" "value" "[B" .null from D1 (Or.inl (wd_53 hw)) (ty := (.array .byte)) (by decide)) (show Fld Z h1 b1 "java/lang/AbstractStringBuilder" "coder" "B" (.int 0) from D1 (Or.inl (wd_55 hw)) (ty := .byte) (by decide)) (show Fld Z h1 b1 "java/lang/AbstractStringBuilder" "count" "I" (.int 0) from D1 (Or.inl (wd_79 hw)) (ty := .int) (by decide))) pd_27 rfl rfl rfl (by decide) (leR rfl) (by decide) (by decide) (fun T h2 v2 L2 X q2 => ?_)
  obtain ⟨rfl, Kc2, d2, gt2, gn2, Bd2, Ed2⟩ := q2
  have K2 : Keep h0 h2 [] := K1.trans Kc2 (fun x hx => by cases List.mem_singleton.mp hx; exact (Or.inr sz_b1))
  have sz_d2 : h0.size ≤ d2 := Nat.le_trans K1.1 gt2
  replace Bd2 : Bld Z h2 b1 d2 (0 : Int32) [(.int 0), (.int 0), (.int 0), (.int 0), (.int 0), (.int 0), (.int 0), (.int 0), (.int 0), (.int 0), (.int 0), (.int 0), (.int 0), (.int 0), (.int 0), (.int 0)] := Bd2
  show Wp _ _ _ _ (T.setTop (mkF _ _ _ [(.ref b1)]))
  refine v_ldcX X Y q8_11_7 (wd_56 hw) (own_wS hw) (by rw [hs0]; exact fun b c r => K2.2.1 b c r List.not_mem_nil) (by rw [hs0]; exact hZ0) (by rw [hs0]; exact Gs.2.1) (Gs.2.1.keep K2) (hheld _ (List.mem_of_getElem? (i := 0) rfl)) hcw [(.int 67), (.int 97), (.int 110), (.int 110), (.int 111), (.int 116), (.int 32), (.int 100), (.int 101), (.int 112), (.int 108), (.int 111), (.int 121), (.int 32)] (by decide) 56 (by decide) (by decide) (by decide) (by decide) (fun T h3 u kk a3 b3 X Y Ex3 E3 C3 V3 B3 M3 O3 L3 N3 => ?_)
  have K3 : Keep h0 h3 [] := K2.ext Ex3
  have f4 := (Bd2.1.ext Ex3)
  have n13 : a3 ≠ b1 := own_neC E3 f4 (by decide)
  have n23 : b3 ≠ b1 := Ne.symm (own_ane f4 (wd_39 hw) B3)
  have f5 := (Bd2.2.2.2.2.ext Ex3)
  have n33 : a3 ≠ d2 := own_ane E3 (wd_8 hw) f5
  have n43 : b3 ≠ d2 := own_aryNe B3 f5 (by decide)
  have f6 := (Bd2.2.1.ext Ex3)
  have f7 := (Bd2.2.2.1.ext Ex3)
  have f8 := (Bd2.2.2.2.1.ext Ex3)
  refine w_callV X q8_11_9 (wd_57 hw) (wd_58 hw) (nfs X.hZ (wd_60 hw)) (wd_60 hw) (wd_59 hw) (wd_40 hw) (wd_61 hw) (by decide) f4 (argsL := [(.ref a3)]) (S := []) (m_app hw hS gn1 gn2 ⟨f4, f6, f7, f8, f5⟩ ⟨E3, C3, V3, B3⟩ (k := (0 : Int32)) (n := (14 : Int32)) (cp := (16 : Int32)) rfl (by decide) rfl (by decide) (leR rfl)) pd_28 rfl rfl rfl (by decide) (leR rfl) (by decide) (by decide) (fun T h4 v4 L4 X q4 => ?_)
  obtain ⟨rfl, Kc4, Bd4⟩ := q4
  have K9 : Keep h0 h4 [] := K3.trans Kc4 (fun x hx => by simp only [List.mem_cons, List.not_mem_nil, or_false] at hx; rcases hx with rfl | rfl <;> first | exact (Or.inr sz_b1) | exact (Or.inr sz_d2))
  replace Bd4 : Bld Z h4 b1 d2 (14 : Int32) [(.int 67), (.int 97), (.int 110), (.int 110), (.int 111), (.int 116), (.int 32), (.int 100), (.int 101), (.int 112), (.int 108), (.int 111), (.int 121), (.int 32), (.int 0), (.int 0)] := Bd4
  show Wp _ _ _ _ (T.setTop (mkF _ _ _ [(.ref b1)]))
  refine w_aloadN X q8_11_12 rfl (rfl) ?_
  have f10 := ((((T1.ext E1).keep Kc2 (ni1 (nel (ltl T1.1.lt (Nat.le_of_eq g1.symm)))) (ni1 (nel (ltl T1.2.2.2.lt (Nat.le_of_eq g1.symm))))).ext Ex3).keep Kc4 (ni2 ⟨(nel (ltl T1.1.lt (Nat.le_of_eq g1.symm))), (nel (ltl (ltl T1.1.lt E1.1) gt2))⟩) (ni2 ⟨(nel (ltl T1.2.2.2.lt (Nat.le_of_eq g1.symm))), (nel (ltl (ltl T1.2.2.2.lt E1.1) gt2))⟩))
  refine w_callV X q8_11_13 (wd_57 hw) (wd_58 hw) (nfs X.hZ (wd_60 hw)) (wd_60 hw) (wd_59 hw) (wd_40 hw) (wd_61 hw) (by decide) Bd4.1 (argsL := [(.ref p1)]) (S := []) (m_app hw hS gn1 gn2 ⟨Bd4.1, Bd4.2.1, Bd4.2.2.1, Bd4.2.2.2.1, Bd4.2.2.2.2⟩ f10 (k := (14 : Int32)) (n := (2 : Int32)) (cp := (16 : Int32)) rfl (by decide) rfl (by decide) (leR rfl)) pd_28 rfl rfl rfl (by decide) (leR rfl) (by decide) (by decide) (fun T h5 v5 L5 X q5 => ?_)
  obtain ⟨rfl, Kc5, Bd5⟩ := q5
  have K11 : Keep h0 h5 [] := K9.trans Kc5 (fun x hx => by simp only [List.mem_cons, List.not_mem_nil, or_false] at hx; rcases hx with rfl | rfl <;> first | exact (Or.inr sz_b1) | exact (Or.inr sz_d2))
  replace Bd5 : Bld Z h5 b1 d2 (16 : Int32) [(.int 67), (.int 97), (.int 110), (.int 110), (.int 111), (.int 116), (.int 32), (.int 100), (.int 101), (.int 112), (.int 108), (.int 111), (.int 121), (.int 32), (.int x0), (.int x1)] := Bd5
  show Wp _ _ _ _ (T.setTop (mkF _ _ _ [(.ref b1)]))
  refine v_ldcX X Y q8_11_16 (wd_105 hw) (own_wS hw) (by rw [hs0]; exact fun b c r => K11.2.1 b c r List.not_mem_nil) (by rw [hs0]; exact hZ0) (by rw [hs0]; exact own_EtO Gs.2.2 (Keep.refl _ _) (fun us hus => N3.2.2.1 _ us (by decide) hus) N3.2.2.2) (own_EtO Gs.2.2 K11 (fun us hus => N3.2.2.1 _ us (by decide) hus) N3.2.2.2) (hheld _ (List.mem_of_getElem? (i := 1) rfl)) hcw [(.int 58), (.int 32)] (by decide) 8 (by decide) (by decide) (by decide) (by decide) (fun T h6 u kk a6 b6 X Y Ex6 E6 C6 V6 B6 M6 O6 L6 N6 => ?_)
  have K12 : Keep h0 h6 [] := K11.ext Ex6
  have f13 := (Bd5.1.ext Ex6)
  have f14 := (Bd5.2.1.ext Ex6)
  have f15 := (Bd5.2.2.1.ext Ex6)
  have f16 := (Bd5.2.2.2.1.ext Ex6)
  have f17 := (Bd5.2.2.2.2.ext Ex6)
  refine w_callV X q8_11_18 (wd_57 hw) (wd_58 hw) (nfs X.hZ (wd_60 hw)) (wd_60 hw) (wd_59 hw) (wd_40 hw) (wd_61 hw) (by decide) f13 (argsL := [(.ref a6)]) (S := []) (m_apg_16_2 hw hS gn1 gn2 ⟨f13, f14, f15, f16, f17⟩ ⟨E6, C6, V6, B6⟩ rfl rfl rfl rfl) pd_28 rfl rfl rfl (by decide) (leR rfl) (by decide) (by decide) (fun T h7 v7 L7 X q7 => ?_)
  obtain ⟨rfl, Kc7, d7, gt7, gn7, Bd7, Ed7⟩ := q7
  have K18 : Keep h0 h7 [] := K12.trans Kc7 (fun x hx => by cases List.mem_singleton.mp hx; exact (Or.inr sz_b1))
  have sz_d7 : h0.size ≤ d7 := Nat.le_trans K12.1 gt7
  replace Bd7 : Bld Z h7 b1 d7 (18 : Int32) [(.int 67), (.int 97), (.int 110), (.int 110), (.int 111), (.int 116), (.int 32), (.int 100), (.int 101), (.int 112), (.int 108), (.int 111), (.int 121), (.int 32), (.int x0), (.int x1), (.int 58), (.int 32), (.int 0), (.int 0), (.int 0), (.int 0), (.int 0), (.int 0), (.int 0), (.int 0), (.int 0), (.int 0), (.int 0), (.int 0), (.int 0), (.int 0), (.int 0), (.int 0)] := Bd7
  show Wp _ _ _ _ (T.setTop (mkF _ _ _ [(.ref b1)]))
  refine w_aloadN X q8_11_21 rfl (rfl) ?_
  have f19 := (((((((T2.ext E1).keep Kc2 (ni1 (nel (ltl T2.1.lt (Nat.le_of_eq g1.symm)))) (ni1 (nel (ltl T2.2.2.2.lt (Nat.le_of_eq g1.symm))))).ext Ex3).keep Kc4 (ni2 ⟨(nel (ltl T2.1.lt (Nat.le_of_eq g1.symm))), (nel (ltl (ltl T2.1.lt E1.1) gt2))⟩) (ni2 ⟨(nel (ltl T2.2.2.2.lt (Nat.le_of_eq g1.symm))), (nel (ltl (ltl T2.2.2.2.lt E1.1) gt2))⟩)).keep Kc5 (ni2 ⟨(nel (ltl T2.1.lt (Nat.le_of_eq g1.symm))), (nel (ltl (ltl T2.1.lt E1.1) gt2))⟩) (ni2 ⟨(nel (ltl T2.2.2.2.lt (Nat.le_of_eq g1.symm))), (nel (ltl (ltl T2.2.2.2.lt E1.1) gt2))⟩)).ext Ex6).keep Kc7 (ni1 (nel (ltl T2.1.lt (Nat.le_of_eq g1.symm)))) (ni1 (nel (ltl T2.2.2.2.lt (Nat.le_of_eq g1.symm)))))
  refine w_callV X q8_11_22 (wd_57 hw) (wd_58 hw) (nfs X.hZ (wd_60 hw)) (wd_60 hw) (wd_59 hw) (wd_40 hw) (wd_61 hw) (by decide) Bd7.1 (argsL := [(.ref p2)]) (S := []) (m_app hw hS gn1 gn7 ⟨Bd7.1, Bd7.2.1, Bd7.2.2.1, Bd7.2.2.2.1, Bd7.2.2.2.2⟩ f19 (k := (18 : Int32)) (n := (3 : Int32)) (cp := (34 : Int32)) rfl (by decide) rfl (by decide) (leR rfl)) pd_28 rfl rfl rfl (by decide) (leR rfl) (by decide) (by decide) (fun T h8 v8 L8 X q8 => ?_)
  obtain ⟨rfl, Kc8, Bd8⟩ := q8
  have K20 : Keep h0 h8 [] := K18.trans Kc8 (fun x hx => by simp only [List.mem_cons, List.not_mem_nil, or_false] at hx; rcases hx with rfl | rfl <;> first | exact (Or.inr sz_b1) | exact (Or.inr sz_d7))
  replace Bd8 : Bld Z h8 b1 d7 (21 : Int32) [(.int 67), (.int 97), (.int 110), (.int 110), (.int 111), (.int 116), (.int 32), (.int 100), (.int 101), (.int 112), (.int 108), (.int 111), (.int 121), (.int 32), (.int x0), (.int x1), (.int 58), (.int 32), (.int y0), (.int y1), (.int y2), (.int 0), (.int 0), (.int 0), (.int 0), (.int 0), (.int 0), (.int 0), (.int 0), (.int 0), (.int 0), (.int 0), (.int 0), (.int 0)] := Bd8
  show Wp _ _ _ _ (T.setTop (mkF _ _ _ [(.ref b1)]))
  refine w_callV X q8_11_25 (wd_106 hw) (wd_107 hw) (nfs X.hZ (wd_109 hw)) (wd_109 hw) (wd_108 hw) (wd_40 hw) (wd_110 hw) (by decide) Bd8.1 (argsL := []) (S := []) (m_ts_21 hw hS ⟨Bd8.1, Bd8.2.1, Bd8.2.2.1, Bd8.2.2.2.1, Bd8.2.2.2.2⟩ rfl rfl) pd_29 rfl rfl rfl (by decide) (leR rfl) (by decide) (by decide) (fun T h9 v9 L9 X q9 => ?_)
  obtain ⟨r9, t9, rfl, ga9, gb9, gc9, gd9, Tx9, Kc9⟩ := q9
  have K21 : Keep h0 h9 [] := K20.trans Kc9 (fun x hx => nomatch hx)
  replace Tx9 : Lat Z h9 r9 t9 (0 : Int32) [(.int 67), (.int 97), (.int 110), (.int 110), (.int 111), (.int 116), (.int 32), (.int 100), (.int 101), (.int 112), (.int 108), (.int 111), (.int 121), (.int 32), (.int x0), (.int x1), (.int 58), (.int 32), (.int y0), (.int y1), (.int y2)] := Tx9
  show Wp _ _ _ _ (T.setTop (mkF _ _ _ [(.ref r9)]))
  have f22 := ((((((E3.keep Kc4).keep Kc5).ext Ex6).keep Kc7).keep Kc8).keep Kc9)
  have f23 := ((((((C3.keep Kc4 (ni2 ⟨n13, n33⟩)).keep Kc5 (ni2 ⟨n13, n33⟩)).ext Ex6).keep Kc7 (ni1 n13)).keep Kc8 (ni2 ⟨n13, (nel (ltl (ltl (ltl (ltl E3.lt Kc4.1) Kc5.1) Ex6.1) gt7))⟩)).keep Kc9 (List.not_mem_nil))
  have f24 := ((((((V3.keep Kc4 (ni2 ⟨n13, n33⟩)).keep Kc5 (ni2 ⟨n13, n33⟩)).ext Ex6).keep Kc7 (ni1 n13)).keep Kc8 (ni2 ⟨n13, (nel (ltl (ltl (ltl (ltl E3.lt Kc4.1) Kc5.1) Ex6.1) gt7))⟩)).keep Kc9 (List.not_mem_nil))
  have f25 := ((((((B3.keep Kc4 (ni2 ⟨n23, n43⟩)).keep Kc5 (ni2 ⟨n23, n43⟩)).ext Ex6).keep Kc7 (ni1 n23)).keep Kc8 (ni2 ⟨n23, (nel (ltl (ltl (ltl (ltl B3.lt Kc4.1) Kc5.1) Ex6.1) gt7))⟩)).keep Kc9 (List.not_mem_nil))
  have f26 := ((((((N3.1.keep Kc4).keep Kc5).ext Ex6).keep Kc7).keep Kc8).keep Kc9)
  exact g_retR X Y rfl (rfl) rfl q8_11_28 (fun vm' hW => ⟨_, _, rfl, Tx9, K21, own_EtF Gs.2.1 K21 N3.2.1 (fun us hus => N6.2.2.1 _ us (by decide) hus) hW.interned_eq ((N3.2.2.2.trans N6.2.2.2).trans hW.alike) (X.hZ.alike.trans hW.alike) ⟨by decide, rfl⟩ (wd_8 hw) ⟨f22, f23, f24, f25⟩ f26⟩) (by decide) (by decide)
theorem m_msg_3_0 (hw : own_hw a0 Z) {h0 : Heap} {zc : Int32} {fm : Value} {p1 p2 t1 t2 : Addr} {x0 x1 x2 : Int32} (hS : own_S Z zc fm) (hheld : ∀ p ∈ consts_1, Jvm.Lit.constHeld Z p.1 p.2) (hcw : Jvm.Lit.compactW.before a0 Z = true) (T1 : Lat Z h0 p1 t1 (0 : Int32) [(.int x0), (.int x1), (.int x2)]) (T2 : Lat Z h0 p2 t2 (0 : Int32) []) :
    DoesG l Z n0 (own_G Z h0) ⟨"com/example/inflow/inflow/model/DeploymentException", "message", "(Ljava/lang/String;Ljava/lang/String;)Ljava/lang/String;"⟩ prog_8_method_11_code 2 (some (.object "java/lang/String")) [] { frames := 6, cells := 9, slots := 152, locals := 113 } #[(.ref p1), (.ref p2)] h0 (fun v h vm => ∃ a t, v = some (.ref a) ∧ Lat Z h a t (0 : Int32) [(.int 67), (.int 97), (.int 110), (.int 110), (.int 111), (.int 116), (.int 32), (.int 100), (.int 101), (.int 112), (.int 108), (.int 111), (.int 121), (.int 32), (.int x0), (.int x1), (.int x2), (.int 58), (.int 32)] ∧ Keep h0 h [] ∧ Et Z "Cannot deploy " h vm) := by
  refine DoesG.start (plainFor_of_name pn_9) ?_
  obtain ⟨S_zc, hzc, S_fm, hfm⟩ := id hS
  intro p e s m below meth c T X Y hs0 Gs
  replace X : Sd _ _ _ _ _ "com/example/inflow/inflow/model/DeploymentException" "message" _ _ _ _ _ _ _ _ _ _ _ _ _ _ _ _ := X
  refine Wp.cast (g' := mkF m 0 #[.val (.ref p1), .val (.ref p2)] []) (by first | (simp [entryFrame, mkF, argsToLocals, Value.category, maxLocals]; done) | rfl) ?_
  have hZ0 := X.old.2.2
  refine w_new X q8_11_0 (wd_38 hw) (wd_39 hw) (wd_40 hw) (by decide) (by decide) (fun T h1 b1 g1 gn1 X E1 A1 D1 => ?_)
  have sz_b1 : h0.size ≤ b1 := Nat.le_trans (Keep.refl h0 []).1 (Nat.le_of_eq g1.symm)
  have K1 : Keep h0 h1 [] := (Keep.refl h0 []).ext E1
  refine w_dup X q8_11_3 rfl ?_
  refine w_callI X q8_11_4 rfl (wd_41 hw) (wd_42 hw) (wd_40 hw) (wd_43 hw) (by decide) (argsL := []) (S := [(.ref b1)]) (m_sb hw hS gn1 A1 (show Fld Z h1 b1 "java/lang/AbstractStringBuilder" "value" "[B" .null from D1 (Or.inl (wd_53 hw)) (ty := (.array .byte)) (by decide)) (show Fld Z h1 b1 "java/lang/AbstractStringBuilder" "coder" "B" (.int 0) from D1 (Or.inl (wd_55 hw)) (ty := .byte) (by decide)) (show Fld Z h1 b1 "java/lang/AbstractStringBuilder" "count" "I" (.int 0) from D1 (Or.inl (wd_79 hw)) (ty := .int) (by decide))) pd_27 rfl rfl rfl (by decide) (leR rfl) (by decide) (by decide) (fun T h2 v2 L2 X q2 => ?_)
  obtain ⟨rfl, Kc2, d2, gt2, gn2, Bd2, Ed2⟩ := q2
  have K2 : Keep h0 h2 [] := K1.trans Kc2 (fun x hx => by cases List.mem_singleton.mp hx; exact (Or.inr sz_b1))
  have sz_d2 : h0.size ≤ d2 := Nat.le_trans K1.1 gt2
  replace Bd2 : Bld Z h2 b1 d2 (0 : Int32) [(.int 0), (.int 0), (.int 0), (.int 0), (.int 0), (.int 0), (.int 0), (.int 0), (.int 0), (.int 0), (.int 0), (.int 0), (.int 0), (.int 0), (.int 0), (.int 0)] := Bd2
  show Wp _ _ _ _ (T.setTop (mkF _ _ _ [(.ref b1)]))
  refine v_ldcX X Y q8_11_7 (wd_56 hw) (own_wS hw) (by rw [hs0]; exact fun b c r => K2.2.1 b c r List.not_mem_nil) (by rw [hs0]; exact hZ0) (by rw [hs0]; exact Gs.2.1) (Gs.2.1.keep K2) (hheld _ (List.mem_of_getElem? (i := 0) rfl)) hcw [(.int 67), (.int 97), (.int 110), (.int 110), (.int 111), (.int 116), (.int 32), (.int 100), (.int 101), (.int 112), (.int 108), (.int 111), (.int 121), (.int 32)] (by decide) 56 (by decide) (by decide) (by decide) (by decide) (fun T h3 u kk a3 b3 X Y Ex3 E3 C3 V3 B3 M3 O3 L3 N3 => ?_)
  have K3 : Keep h0 h3 [] := K2.ext Ex3
  have f4 := (Bd2.1.ext Ex3)
  have n13 : a3 ≠ b1 := own_neC E3 f4 (by decide)
  have n23 : b3 ≠ b1 := Ne.symm (own_ane f4 (wd_39 hw) B3)
  have f5 := (Bd2.2.2.2.2.ext Ex3)
  have n33 : a3 ≠ d2 := own_ane E3 (wd_8 hw) f5
  have n43 : b3 ≠ d2 := own_aryNe B3 f5 (by decide)
  have f6 := (Bd2.2.1.ext Ex3)
  have f7 := (Bd2.2.2.1.ext Ex3)
  have f8 := (Bd2.2.2.2.1.ext Ex3)
  refine w_callV X q8_11_9 (wd_57 hw) (wd_58 hw) (nfs X.hZ (wd_60 hw)) (wd_60 hw) (wd_59 hw) (wd_40 hw) (wd_61 hw) (by decide) f4 (argsL := [(.ref a3)]) (S := []) (m_app hw hS gn1 gn2 ⟨f4, f6, f7, f8, f5⟩ ⟨E3, C3, V3, B3⟩ (k := (0 : Int32)) (n := (14 : Int32)) (cp := (16 : Int32)) rfl (by decide) rfl (by decide) (leR rfl)) pd_28 rfl rfl rfl (by decide) (leR rfl) (by decide) (by decide) (fun T h4 v4 L4 X q4 => ?_)
  obtain ⟨rfl, Kc4, Bd4⟩ := q4
  have K9 : Keep h0 h4 [] := K3.trans Kc4 (fun x hx => by simp only [List.mem_cons, List.not_mem_nil, or_false] at hx; rcases hx with rfl | rfl <;> first | exact (Or.inr sz_b1) | exact (Or.inr sz_d2))
  replace Bd4 : Bld Z h4 b1 d2 (14 : Int32) [(.int 67), (.int 97), (.int 110), (.int 110), (.int 111), (.int 116), (.int 32), (.int 100), (.int 101), (.int 112), (.int 108), (.int 111), (.int 121), (.int 32), (.int 0), (.int 0)] := Bd4
  show Wp _ _ _ _ (T.setTop (mkF _ _ _ [(.ref b1)]))
  refine w_aloadN X q8_11_12 rfl (rfl) ?_
  have f10 := ((((T1.ext E1).keep Kc2 (ni1 (nel (ltl T1.1.lt (Nat.le_of_eq g1.symm)))) (ni1 (nel (ltl T1.2.2.2.lt (Nat.le_of_eq g1.symm))))).ext Ex3).keep Kc4 (ni2 ⟨(nel (ltl T1.1.lt (Nat.le_of_eq g1.symm))), (nel (ltl (ltl T1.1.lt E1.1) gt2))⟩) (ni2 ⟨(nel (ltl T1.2.2.2.lt (Nat.le_of_eq g1.symm))), (nel (ltl (ltl T1.2.2.2.lt E1.1) gt2))⟩))
  refine w_callV X q8_11_13 (wd_57 hw) (wd_58 hw) (nfs X.hZ (wd_60 hw)) (wd_60 hw) (wd_59 hw) (wd_40 hw) (wd_61 hw) (by decide) Bd4.1 (argsL := [(.ref p1)]) (S := []) (m_apg_14_3 hw hS gn1 gn2 ⟨Bd4.1, Bd4.2.1, Bd4.2.2.1, Bd4.2.2.2.1, Bd4.2.2.2.2⟩ f10 rfl rfl rfl rfl) pd_28 rfl rfl rfl (by decide) (leR rfl) (by decide) (by decide) (fun T h5 v5 L5 X q5 => ?_)
  obtain ⟨rfl, Kc5, d5, gt5, gn5, Bd5, Ed5⟩ := q5
  have K11 : Keep h0 h5 [] := K9.trans Kc5 (fun x hx => by cases List.mem_singleton.mp hx; exact (Or.inr sz_b1))
  have sz_d5 : h0.size ≤ d5 := Nat.le_trans K9.1 gt5
  replace Bd5 : Bld Z h5 b1 d5 (17 : Int32) [(.int 67), (.int 97), (.int 110), (.int 110), (.int 111), (.int 116), (.int 32), (.int 100), (.int 101), (.int 112), (.int 108), (.int 111), (.int 121), (.int 32), (.int x0), (.int x1), (.int x2), (.int 0), (.int 0), (.int 0), (.int 0), (.int 0), (.int 0), (.int 0), (.int 0), (.int 0), (.int 0), (.int 0), (.int 0), (.int 0), (.int 0), (.int 0), (.int 0), (.int 0)] := Bd5
  show Wp _ _ _ _ (T.setTop (mkF _ _ _ [(.ref b1)]))
  refine v_ldcX X Y q8_11_16 (wd_105 hw) (own_wS hw) (by rw [hs0]; exact fun b c r => K11.2.1 b c r List.not_mem_nil) (by rw [hs0]; exact hZ0) (by rw [hs0]; exact own_EtO Gs.2.2 (Keep.refl _ _) (fun us hus => N3.2.2.1 _ us (by decide) hus) N3.2.2.2) (own_EtO Gs.2.2 K11 (fun us hus => N3.2.2.1 _ us (by decide) hus) N3.2.2.2) (hheld _ (List.mem_of_getElem? (i := 1) rfl)) hcw [(.int 58), (.int 32)] (by decide) 8 (by decide) (by decide) (by decide) (by decide) (fun T h6 u kk a6 b6 X Y Ex6 E6 C6 V6 B6 M6 O6 L6 N6 => ?_)
  have K12 : Keep h0 h6 [] := K11.ext Ex6
  have f13 := (Bd5.1.ext Ex6)
  have f14 := (Bd5.2.1.ext Ex6)
  have f15 := (Bd5.2.2.1.ext Ex6)
  have f16 := (Bd5.2.2.2.1.ext Ex6)
  have f17 := (Bd5.2.2.2.2.ext Ex6)
  refine w_callV X q8_11_18 (wd_57 hw) (wd_58 hw) (nfs X.hZ (wd_60 hw)) (wd_60 hw) (wd_59 hw) (wd_40 hw) (wd_61 hw) (by decide) f13 (argsL := [(.ref a6)]) (S := []) (m_app hw hS gn1 gn5 ⟨f13, f14, f15, f16, f17⟩ ⟨E6, C6, V6, B6⟩ (k := (17 : Int32)) (n := (2 : Int32)) (cp := (34 : Int32)) rfl (by decide) rfl (by decide) (leR rfl)) pd_28 rfl rfl rfl (by decide) (leR rfl) (by decide) (by decide) (fun T h7 v7 L7 X q7 => ?_)
  obtain ⟨rfl, Kc7, Bd7⟩ := q7
  have K18 : Keep h0 h7 [] := K12.trans Kc7 (fun x hx => by simp only [List.mem_cons, List.not_mem_nil, or_false] at hx; rcases hx with rfl | rfl <;> first | exact (Or.inr sz_b1) | exact (Or.inr sz_d5))
  replace Bd7 : Bld Z h7 b1 d5 (19 : Int32) [(.int 67), (.int 97), (.int 110), (.int 110), (.int 111), (.int 116), (.int 32), (.int 100), (.int 101), (.int 112), (.int 108), (.int 111), (.int 121), (.int 32), (.int x0), (.int x1), (.int x2), (.int 58), (.int 32), (.int 0), (.int 0), (.int 0), (.int 0), (.int 0), (.int 0), (.int 0), (.int 0), (.int 0), (.int 0), (.int 0), (.int 0), (.int 0), (.int 0), (.int 0)] := Bd7
  show Wp _ _ _ _ (T.setTop (mkF _ _ _ [(.ref b1)]))
  refine w_aloadN X q8_11_21 rfl (rfl) ?_
  have f19 := (((((((T2.ext E1).keep Kc2 (ni1 (nel (ltl T2.1.lt (Nat.le_of_eq g1.symm)))) (ni1 (nel (ltl T2.2.2.2.lt (Nat.le_of_eq g1.symm))))).ext Ex3).keep Kc4 (ni2 ⟨(nel (ltl T2.1.lt (Nat.le_of_eq g1.symm))), (nel (ltl (ltl T2.1.lt E1.1) gt2))⟩) (ni2 ⟨(nel (ltl T2.2.2.2.lt (Nat.le_of_eq g1.symm))), (nel (ltl (ltl T2.2.2.2.lt E1.1) gt2))⟩)).keep Kc5 (ni1 (nel (ltl T2.1.lt (Nat.le_of_eq g1.symm)))) (ni1 (nel (ltl T2.2.2.2.lt (Nat.le_of_eq g1.symm))))).ext Ex6).keep Kc7 (ni2 ⟨(nel (ltl T2.1.lt (Nat.le_of_eq g1.symm))), (nel (ltl (ltl (ltl (ltl (ltl T2.1.lt E1.1) Kc2.1) Ex3.1) Kc4.1) gt5))⟩) (ni2 ⟨(nel (ltl T2.2.2.2.lt (Nat.le_of_eq g1.symm))), (nel (ltl (ltl (ltl (ltl (ltl T2.2.2.2.lt E1.1) Kc2.1) Ex3.1) Kc4.1) gt5))⟩))
  refine w_callV X q8_11_22 (wd_57 hw) (wd_58 hw) (nfs X.hZ (wd_60 hw)) (wd_60 hw) (wd_59 hw) (wd_40 hw) (wd_61 hw) (by decide) Bd7.1 (argsL := [(.ref p2)]) (S := []) (m_app hw hS gn1 gn5 ⟨Bd7.1, Bd7.2.1, Bd7.2.2.1, Bd7.2.2.2.1, Bd7.2.2.2.2⟩ f19 (k := (19 : Int32)) (n := (0 : Int32)) (cp := (34 : Int32)) rfl (by decide) rfl (by decide) (leR rfl)) pd_28 rfl rfl rfl (by decide) (leR rfl) (by decide) (by decide) (fun T h8 v8 L8 X q8 => ?_)
  obtain ⟨rfl, Kc8, Bd8⟩ := q8
  have K20 : Keep h0 h8 [] := K18.trans Kc8 (fun x hx => by simp only [List.mem_cons, List.not_mem_nil, or_false] at hx; rcases hx with rfl | rfl <;> first | exact (Or.inr sz_b1) | exact (Or.inr sz_d5))
  replace Bd8 : Bld Z h8 b1 d5 (19 : Int32) [(.int 67), (.int 97), (.int 110), (.int 110), (.int 111), (.int 116), (.int 32), (.int 100), (.int 101), (.int 112), (.int 108), (.int 111), (.int 121), (.int 32), (.int x0), (.int x1), (.int x2), (.int 58), (.int 32), (.int 0), (.int 0), (.int 0), (.int 0), (.int 0), (.int 0), (.int 0), (.int 0), (.int 0), (.int 0), (.int 0), (.int 0), (.int 0), (.int 0), (.int 0)] := Bd8
  show Wp _ _ _ _ (T.setTop (mkF _ _ _ [(.ref b1)]))
  refine w_callV X q8_11_25 (wd_106 hw) (wd_107 hw) (nfs X.hZ (wd_109 hw)) (wd_109 hw) (wd_108 hw) (wd_40 hw) (wd_110 hw) (by decide) Bd8.1 (argsL := []) (S := []) (m_ts_19 hw hS ⟨Bd8.1, Bd8.2.1, Bd8.2.2.1, Bd8.2.2.2.1, Bd8.2.2.2.2⟩ rfl rfl) pd_29 rfl rfl rfl (by decide) (leR rfl) (by decide) (by decide) (fun T h9 v9 L9 X q9 => ?_)
  obtain ⟨r9, t9, rfl, ga9, gb9, gc9, gd9, Tx9, Kc9⟩ := q9
  have K21 : Keep h0 h9 [] := K20.trans Kc9 (fun x hx => nomatch hx)
  replace Tx9 : Lat Z h9 r9 t9 (0 : Int32) [(.int 67), (.int 97), (.int 110), (.int 110), (.int 111), (.int 116), (.int 32), (.int 100), (.int 101), (.int 112), (.int 108), (.int 111), (.int 121), (.int 32), (.int x0), (.int x1), (.int x2), (.int 58), (.int 32)] := Tx9
  show Wp _ _ _ _ (T.setTop (mkF _ _ _ [(.ref r9)]))
  have f22 := ((((((E3.keep Kc4).keep Kc5).ext Ex6).keep Kc7).keep Kc8).keep Kc9)
  have f23 := ((((((C3.keep Kc4 (ni2 ⟨n13, n33⟩)).keep Kc5 (ni1 n13)).ext Ex6).keep Kc7 (ni2 ⟨n13, (nel (ltl (ltl E3.lt Kc4.1) gt5))⟩)).keep Kc8 (ni2 ⟨n13, (nel (ltl (ltl E3.lt Kc4.1) gt5))⟩)).keep Kc9 (List.not_mem_nil))
  have f24 := ((((((V3.keep Kc4 (ni2 ⟨n13, n33⟩)).keep Kc5 (ni1 n13)).ext Ex6).keep Kc7 (ni2 ⟨n13, (nel (ltl (ltl E3.lt Kc4.1) gt5))⟩)).keep Kc8 (ni2 ⟨n13, (nel (ltl (ltl E3.lt Kc4.1) gt5))⟩)).keep Kc9 (List.not_mem_nil))
  have f25 := ((((((B3.keep Kc4 (ni2 ⟨n23, n43⟩)).keep Kc5 (ni1 n23)).ext Ex6).keep Kc7 (ni2 ⟨n23, (nel (ltl (ltl B3.lt Kc4.1) gt5))⟩)).keep Kc8 (ni2 ⟨n23, (nel (ltl (ltl B3.lt Kc4.1) gt5))⟩)).keep Kc9 (List.not_mem_nil))
  have f26 := ((((((N3.1.keep Kc4).keep Kc5).ext Ex6).keep Kc7).keep Kc8).keep Kc9)
  exact g_retR X Y rfl (rfl) rfl q8_11_28 (fun vm' hW => ⟨_, _, rfl, Tx9, K21, own_EtF Gs.2.1 K21 N3.2.1 (fun us hus => N6.2.2.1 _ us (by decide) hus) hW.interned_eq ((N3.2.2.2.trans N6.2.2.2).trans hW.alike) (X.hZ.alike.trans hW.alike) ⟨by decide, rfl⟩ (wd_8 hw) ⟨f22, f23, f24, f25⟩ f26⟩) (by decide) (by decide)
theorem m_msg_3_1 (hw : own_hw a0 Z) {h0 : Heap} {zc : Int32} {fm : Value} {p1 p2 t1 t2 : Addr} {x0 x1 x2 y0 : Int32} (hS : own_S Z zc fm) (hheld : ∀ p ∈ consts_1, Jvm.Lit.constHeld Z p.1 p.2) (hcw : Jvm.Lit.compactW.before a0 Z = true) (T1 : Lat Z h0 p1 t1 (0 : Int32) [(.int x0), (.int x1), (.int x2)]) (T2 : Lat Z h0 p2 t2 (0 : Int32) [(.int y0)]) :
    DoesG l Z n0 (own_G Z h0) ⟨"com/example/inflow/inflow/model/DeploymentException", "message", "(Ljava/lang/String;Ljava/lang/String;)Ljava/lang/String;"⟩ prog_8_method_11_code 2 (some (.object "java/lang/String")) [] { frames := 6, cells := 9, slots := 152, locals := 113 } #[(.ref p1), (.ref p2)] h0 (fun v h vm => ∃ a t, v = some (.ref a) ∧ Lat Z h a t (0 : Int32) [(.int 67), (.int 97), (.int 110), (.int 110), (.int 111), (.int 116), (.int 32), (.int 100), (.int 101), (.int 112), (.int 108), (.int 111), (.int 121), (.int 32), (.int x0), (.int x1), (.int x2), (.int 58), (.int 32), (.int y0)] ∧ Keep h0 h [] ∧ Et Z "Cannot deploy " h vm) := by
  refine DoesG.start (plainFor_of_name pn_9) ?_
  obtain ⟨S_zc, hzc, S_fm, hfm⟩ := id hS
  intro p e s m below meth c T X Y hs0 Gs
  replace X : Sd _ _ _ _ _ "com/example/inflow/inflow/model/DeploymentException" "message" _ _ _ _ _ _ _ _ _ _ _ _ _ _ _ _ := X
  refine Wp.cast (g' := mkF m 0 #[.val (.ref p1), .val (.ref p2)] []) (by first | (simp [entryFrame, mkF, argsToLocals, Value.category, maxLocals]; done) | rfl) ?_
  have hZ0 := X.old.2.2
  refine w_new X q8_11_0 (wd_38 hw) (wd_39 hw) (wd_40 hw) (by decide) (by decide) (fun T h1 b1 g1 gn1 X E1 A1 D1 => ?_)
  have sz_b1 : h0.size ≤ b1 := Nat.le_trans (Keep.refl h0 []).1 (Nat.le_of_eq g1.symm)
  have K1 : Keep h0 h1 [] := (Keep.refl h0 []).ext E1
  refine w_dup X q8_11_3 rfl ?_
  refine w_callI X q8_11_4 rfl (wd_41 hw) (wd_42 hw) (wd_40 hw) (wd_43 hw) (by decide) (argsL := []) (S := [(.ref b1)]) (m_sb hw hS gn1 A1 (show Fld Z h1 b1 "java/lang/AbstractStringBuilder" "value" "[B" .null from D1 (Or.inl (wd_53 hw)) (ty := (.array .byte)) (by decide)) (show Fld Z h1 b1 "java/lang/AbstractStringBuilder" "coder" "B" (.int 0) from D1 (Or.inl (wd_55 hw)) (ty := .byte) (by decide)) (show Fld Z h1 b1 "java/lang/AbstractStringBuilder" "count" "I" (.int 0) from D1 (Or.inl (wd_79 hw)) (ty := .int) (by decide))) pd_27 rfl rfl rfl (by decide) (leR rfl) (by decide) (by decide) (fun T h2 v2 L2 X q2 => ?_)
  obtain ⟨rfl, Kc2, d2, gt2, gn2, Bd2, Ed2⟩ := q2
  have K2 : Keep h0 h2 [] := K1.trans Kc2 (fun x hx => by cases List.mem_singleton.mp hx; exact (Or.inr sz_b1))
  have sz_d2 : h0.size ≤ d2 := Nat.le_trans K1.1 gt2
  replace Bd2 : Bld Z h2 b1 d2 (0 : Int32) [(.int 0), (.int 0), (.int 0), (.int 0), (.int 0), (.int 0), (.int 0), (.int 0), (.int 0), (.int 0), (.int 0), (.int 0), (.int 0), (.int 0), (.int 0), (.int 0)] := Bd2
  show Wp _ _ _ _ (T.setTop (mkF _ _ _ [(.ref b1)]))
  refine v_ldcX X Y q8_11_7 (wd_56 hw) (own_wS hw) (by rw [hs0]; exact fun b c r => K2.2.1 b c r List.not_mem_nil) (by rw [hs0]; exact hZ0) (by rw [hs0]; exact Gs.2.1) (Gs.2.1.keep K2) (hheld _ (List.mem_of_getElem? (i := 0) rfl)) hcw [(.int 67), (.int 97), (.int 110), (.int 110), (.int 111), (.int 116), (.int 32), (.int 100), (.int 101), (.int 112), (.int 108), (.int 111), (.int 121), (.int 32)] (by decide) 56 (by decide) (by decide) (by decide) (by decide) (fun T h3 u kk a3 b3 X Y Ex3 E3 C3 V3 B3 M3 O3 L3 N3 => ?_)
  have K3 : Keep h0 h3 [] := K2.ext Ex3
  have f4 := (Bd2.1.ext Ex3)
  have n13 : a3 ≠ b1 := own_neC E3 f4 (by decide)
  have n23 : b3 ≠ b1 := Ne.symm (own_ane f4 (wd_39 hw) B3)
  have f5 := (Bd2.2.2.2.2.ext Ex3)
  have n33 : a3 ≠ d2 := own_ane E3 (wd_8 hw) f5
  have n43 : b3 ≠ d2 := own_aryNe B3 f5 (by decide)
  have f6 := (Bd2.2.1.ext Ex3)
  have f7 := (Bd2.2.2.1.ext Ex3)
  have f8 := (Bd2.2.2.2.1.ext Ex3)
  refine w_callV X q8_11_9 (wd_57 hw) (wd_58 hw) (nfs X.hZ (wd_60 hw)) (wd_60 hw) (wd_59 hw) (wd_40 hw) (wd_61 hw) (by decide) f4 (argsL := [(.ref a3)]) (S := []) (m_app hw hS gn1 gn2 ⟨f4, f6, f7, f8, f5⟩ ⟨E3, C3, V3, B3⟩ (k := (0 : Int32)) (n := (14 : Int32)) (cp := (16 : Int32)) rfl (by decide) rfl (by decide) (leR rfl)) pd_28 rfl rfl rfl (by decide) (leR rfl) (by decide) (by decide) (fun T h4 v4 L4 X q4 => ?_)
  obtain ⟨rfl, Kc4, Bd4⟩ := q4
  have K9 : Keep h0 h4 [] := K3.trans Kc4 (fun x hx => by simp only [List.mem_cons, List.not_mem_nil, or_false] at hx; rcases hx with rfl | rfl <;> first | exact (Or.inr sz_b1) | exact (Or.inr sz_d2))
  replace Bd4 : Bld Z h4 b1 d2 (14 : Int32) [(.int 67), (.int 97), (.int 110), (.int 110), (.int 111), (.int 116), (.int 32), (.int 100), (.int 101), (.int 112), (.int 108), (.int 111), (.int 121), (.int 32), (.int 0), (.int 0)] := Bd4
  show Wp _ _ _ _ (T.setTop (mkF _ _ _ [(.ref b1)]))
  refine w_aloadN X q8_11_12 rfl (rfl) ?_
  have f10 := ((((T1.ext E1).keep Kc2 (ni1 (nel (ltl T1.1.lt (Nat.le_of_eq g1.symm)))) (ni1 (nel (ltl T1.2.2.2.lt (Nat.le_of_eq g1.symm))))).ext Ex3).keep Kc4 (ni2 ⟨(nel (ltl T1.1.lt (Nat.le_of_eq g1.symm))), (nel (ltl (ltl T1.1.lt E1.1) gt2))⟩) (ni2 ⟨(nel (ltl T1.2.2.2.lt (Nat.le_of_eq g1.symm))), (nel (ltl (ltl T1.2.2.2.lt E1.1) gt2))⟩))
  refine w_callV X q8_11_13 (wd_57 hw) (wd_58 hw) (nfs X.hZ (wd_60 hw)) (wd_60 hw) (wd_59 hw) (wd_40 hw) (wd_61 hw) (by decide) Bd4.1 (argsL := [(.ref p1)]) (S := []) (m_apg_14_3 hw hS gn1 gn2 ⟨Bd4.1, Bd4.2.1, Bd4.2.2.1, Bd4.2.2.2.1, Bd4.2.2.2.2⟩ f10 rfl rfl rfl rfl) pd_28 rfl rfl rfl (by decide) (leR rfl) (by decide) (by decide) (fun T h5 v5 L5 X q5 => ?_)
  obtain ⟨rfl, Kc5, d5, gt5, gn5, Bd5, Ed5⟩ := q5
  have K11 : Keep h0 h5 [] := K9.trans Kc5 (fun x hx => by cases List.mem_singleton.mp hx; exact (Or.inr sz_b1))
  have sz_d5 : h0.size ≤ d5 := Nat.le_trans K9.1 gt5
  replace Bd5 : Bld Z h5 b1 d5 (17 : Int32) [(.int 67), (.int 97), (.int 110), (.int 110), (.int 111), (.int 116), (.int 32), (.int 100), (.int 101), (.int 112), (.int 108), (.int 111), (.int 121), (.int 32), (.int x0), (.int x1), (.int x2), (.int 0), (.int 0), (.int 0), (.int 0), (.int 0), (.int 0), (.int 0), (.int 0), (.int 0), (.int 0), (.int 0), (.int 0), (.int 0), (.int 0), (.int 0), (.int 0), (.int 0)] := Bd5
  show Wp _ _ _ _ (T.setTop (mkF _ _ _ [(.ref b1)]))
  refine v_ldcX X Y q8_11_16 (wd_105 hw) (own_wS hw) (by rw [hs0]; exact fun b c r => K11.2.1 b c r List.not_mem_nil) (by rw [hs0]; exact hZ0) (by rw [hs0]; exact own_EtO Gs.2.2 (Keep.refl _ _) (fun us hus => N3.2.2.1 _ us (by decide) hus) N3.2.2.2) (own_EtO Gs.2.2 K11 (fun us hus => N3.2.2.1 _ us (by decide) hus) N3.2.2.2) (hheld _ (List.mem_of_getElem? (i := 1) rfl)) hcw [(.int 58), (.int 32)] (by decide) 8 (by decide) (by decide) (by decide) (by decide) (fun T h6 u kk a6 b6 X Y Ex6 E6 C6 V6 B6 M6 O6 L6 N6 => ?_)
  have K12 : Keep h0 h6 [] := K11.ext Ex6
  have f13 := (Bd5.1.ext Ex6)
  have f14 := (Bd5.2.1.ext Ex6)
  have f15 := (Bd5.2.2.1.ext Ex6)
  have f16 := (Bd5.2.2.2.1.ext Ex6)
  have f17 := (Bd5.2.2.2.2.ext Ex6)
  refine w_callV X q8_11_18 (wd_57 hw) (wd_58 hw) (nfs X.hZ (wd_60 hw)) (wd_60 hw) (wd_59 hw) (wd_40 hw) (wd_61 hw) (by decide) f13 (argsL := [(.ref a6)]) (S := []) (m_app hw hS gn1 gn5 ⟨f13, f14, f15, f16, f17⟩ ⟨E6, C6, V6, B6⟩ (k := (17 : Int32)) (n := (2 : Int32)) (cp := (34 : Int32)) rfl (by decide) rfl (by decide) (leR rfl)) pd_28 rfl rfl rfl (by decide) (leR rfl) (by decide) (by decide) (fun T h7 v7 L7 X q7 => ?_)
  obtain ⟨rfl, Kc7, Bd7⟩ := q7
  have K18 : Keep h0 h7 [] := K12.trans Kc7 (fun x hx => by simp only [List.mem_cons, List.not_mem_nil, or_false] at hx; rcases hx with rfl | rfl <;> first | exact (Or.inr sz_b1) | exact (Or.inr sz_d5))
  replace Bd7 : Bld Z h7 b1 d5 (19 : Int32) [(.int 67), (.int 97), (.int 110), (.int 110), (.int 111), (.int 116), (.int 32), (.int 100), (.int 101), (.int 112), (.int 108), (.int 111), (.int 121), (.int 32), (.int x0), (.int x1), (.int x2), (.int 58), (.int 32), (.int 0), (.int 0), (.int 0), (.int 0), (.int 0), (.int 0), (.int 0), (.int 0), (.int 0), (.int 0), (.int 0), (.int 0), (.int 0), (.int 0), (.int 0)] := Bd7
  show Wp _ _ _ _ (T.setTop (mkF _ _ _ [(.ref b1)]))
  refine w_aloadN X q8_11_21 rfl (rfl) ?_
  have f19 := (((((((T2.ext E1).keep Kc2 (ni1 (nel (ltl T2.1.lt (Nat.le_of_eq g1.symm)))) (ni1 (nel (ltl T2.2.2.2.lt (Nat.le_of_eq g1.symm))))).ext Ex3).keep Kc4 (ni2 ⟨(nel (ltl T2.1.lt (Nat.le_of_eq g1.symm))), (nel (ltl (ltl T2.1.lt E1.1) gt2))⟩) (ni2 ⟨(nel (ltl T2.2.2.2.lt (Nat.le_of_eq g1.symm))), (nel (ltl (ltl T2.2.2.2.lt E1.1) gt2))⟩)).keep Kc5 (ni1 (nel (ltl T2.1.lt (Nat.le_of_eq g1.symm)))) (ni1 (nel (ltl T2.2.2.2.lt (Nat.le_of_eq g1.symm))))).ext Ex6).keep Kc7 (ni2 ⟨(nel (ltl T2.1.lt (Nat.le_of_eq g1.symm))), (nel (ltl (ltl (ltl (ltl (ltl T2.1.lt E1.1) Kc2.1) Ex3.1) Kc4.1) gt5))⟩) (ni2 ⟨(nel (ltl T2.2.2.2.lt (Nat.le_of_eq g1.symm))), (nel (ltl (ltl (ltl (ltl (ltl T2.2.2.2.lt E1.1) Kc2.1) Ex3.1) Kc4.1) gt5))⟩))
  refine w_callV X q8_11_22 (wd_57 hw) (wd_58 hw) (nfs X.hZ (wd_60 hw)) (wd_60 hw) (wd_59 hw) (wd_40 hw) (wd_61 hw) (by decide) Bd7.1 (argsL := [(.ref p2)]) (S := []) (m_app hw hS gn1 gn5 ⟨Bd7.1, Bd7.2.1, Bd7.2.2.1, Bd7.2.2.2.1, Bd7.2.2.2.2⟩ f19 (k := (19 : Int32)) (n := (1 : Int32)) (cp := (34 : Int32)) rfl (by decide) rfl (by decide) (leR rfl)) pd_28 rfl rfl rfl (by decide) (leR rfl) (by decide) (by decide) (fun T h8 v8 L8 X q8 => ?_)
  obtain ⟨rfl, Kc8, Bd8⟩ := q8
  have K20 : Keep h0 h8 [] := K18.trans Kc8 (fun x hx => by simp only [List.mem_cons, List.not_mem_nil, or_false] at hx; rcases hx with rfl | rfl <;> first | exact (Or.inr sz_b1) | exact (Or.inr sz_d5))
  replace Bd8 : Bld Z h8 b1 d5 (20 : Int32) [(.int 67), (.int 97), (.int 110), (.int 110), (.int 111), (.int 116), (.int 32), (.int 100), (.int 101), (.int 112), (.int 108), (.int 111), (.int 121), (.int 32), (.int x0), (.int x1), (.int x2), (.int 58), (.int 32), (.int y0), (.int 0), (.int 0), (.int 0), (.int 0), (.int 0), (.int 0), (.int 0), (.int 0), (.int 0), (.int 0), (.int 0), (.int 0), (.int 0), (.int 0)] := Bd8
  show Wp _ _ _ _ (T.setTop (mkF _ _ _ [(.ref b1)]))
  refine w_callV X q8_11_25 (wd_106 hw) (wd_107 hw) (nfs X.hZ (wd_109 hw)) (wd_109 hw) (wd_108 hw) (wd_40 hw) (wd_110 hw) (by decide) Bd8.1 (argsL := []) (S := []) (m_ts_20 hw hS ⟨Bd8.1, Bd8.2.1, Bd8.2.2.1, Bd8.2.2.2.1, Bd8.2.2.2.2⟩ rfl rfl) pd_29 rfl rfl rfl (by decide) (leR rfl) (by decide) (by decide) (fun T h9 v9 L9 X q9 => ?_)
  obtain ⟨r9, t9, rfl, ga9, gb9, gc9, gd9, Tx9, Kc9⟩ := q9
  have K21 : Keep h0 h9 [] := K20.trans Kc9 (fun x hx => nomatch hx)
  replace Tx9 : Lat Z h9 r9 t9 (0 : Int32) [(.int 67), (.int 97), (.int 110), (.int 110), (.int 111), (.int 116), (.int 32), (.int 100), (.int 101), (.int 112), (.int 108), (.int 111), (.int 121), (.int 32), (.int x0), (.int x1), (.int x2), (.int 58), (.int 32), (.int y0)] := Tx9
  show Wp _ _ _ _ (T.setTop (mkF _ _ _ [(.ref r9)]))
  have f22 := ((((((E3.keep Kc4).keep Kc5).ext Ex6).keep Kc7).keep Kc8).keep Kc9)
  have f23 := ((((((C3.keep Kc4 (ni2 ⟨n13, n33⟩)).keep Kc5 (ni1 n13)).ext Ex6).keep Kc7 (ni2 ⟨n13, (nel (ltl (ltl E3.lt Kc4.1) gt5))⟩)).keep Kc8 (ni2 ⟨n13, (nel (ltl (ltl E3.lt Kc4.1) gt5))⟩)).keep Kc9 (List.not_mem_nil))
  have f24 := ((((((V3.keep Kc4 (ni2 ⟨n13, n33⟩)).keep Kc5 (ni1 n13)).ext Ex6).keep Kc7 (ni2 ⟨n13, (nel (ltl (ltl E3.lt Kc4.1) gt5))⟩)).keep Kc8 (ni2 ⟨n13, (nel (ltl (ltl E3.lt Kc4.1) gt5))⟩)).keep Kc9 (List.not_mem_nil))
  have f25 := ((((((B3.keep Kc4 (ni2 ⟨n23, n43⟩)).keep Kc5 (ni1 n23)).ext Ex6).keep Kc7 (ni2 ⟨n23, (nel (ltl (ltl B3.lt Kc4.1) gt5))⟩)).keep Kc8 (ni2 ⟨n23, (nel (ltl (ltl B3.lt Kc4.1) gt5))⟩)).keep Kc9 (List.not_mem_nil))
  have f26 := ((((((N3.1.keep Kc4).keep Kc5).ext Ex6).keep Kc7).keep Kc8).keep Kc9)
  exact g_retR X Y rfl (rfl) rfl q8_11_28 (fun vm' hW => ⟨_, _, rfl, Tx9, K21, own_EtF Gs.2.1 K21 N3.2.1 (fun us hus => N6.2.2.1 _ us (by decide) hus) hW.interned_eq ((N3.2.2.2.trans N6.2.2.2).trans hW.alike) (X.hZ.alike.trans hW.alike) ⟨by decide, rfl⟩ (wd_8 hw) ⟨f22, f23, f24, f25⟩ f26⟩) (by decide) (by decide)
theorem m_msg_3_2 (hw : own_hw a0 Z) {h0 : Heap} {zc : Int32} {fm : Value} {p1 p2 t1 t2 : Addr} {x0 x1 x2 y0 y1 : Int32} (hS : own_S Z zc fm) (hheld : ∀ p ∈ consts_1, Jvm.Lit.constHeld Z p.1 p.2) (hcw : Jvm.Lit.compactW.before a0 Z = true) (T1 : Lat Z h0 p1 t1 (0 : Int32) [(.int x0), (.int x1), (.int x2)]) (T2 : Lat Z h0 p2 t2 (0 : Int32) [(.int y0), (.int y1)]) :
    DoesG l Z n0 (own_G Z h0) ⟨"com/example/inflow/inflow/model/DeploymentException", "message", "(Ljava/lang/String;Ljava/lang/String;)Ljava/lang/String;"⟩ prog_8_method_11_code 2 (some (.object "java/lang/String")) [] { frames := 6, cells := 9, slots := 152, locals := 113 } #[(.ref p1), (.ref p2)] h0 (fun v h vm => ∃ a t, v = some (.ref a) ∧ Lat Z h a t (0 : Int32) [(.int 67), (.int 97), (.int 110), (.int 110), (.int 111), (.int 116), (.int 32), (.int 100), (.int 101), (.int 112), (.int 108), (.int 111), (.int 121), (.int 32), (.int x0), (.int x1), (.int x2), (.int 58), (.int 32), (.int y0), (.int y1)] ∧ Keep h0 h [] ∧ Et Z "Cannot deploy " h vm) := by
  refine DoesG.start (plainFor_of_name pn_9) ?_
  obtain ⟨S_zc, hzc, S_fm, hfm⟩ := id hS
  intro p e s m below meth c T X Y hs0 Gs
  replace X : Sd _ _ _ _ _ "com/example/inflow/inflow/model/DeploymentException" "message" _ _ _ _ _ _ _ _ _ _ _ _ _ _ _ _ := X
  refine Wp.cast (g' := mkF m 0 #[.val (.ref p1), .val (.ref p2)] []) (by first | (simp [entryFrame, mkF, argsToLocals, Value.category, maxLocals]; done) | rfl) ?_
  have hZ0 := X.old.2.2
  refine w_new X q8_11_0 (wd_38 hw) (wd_39 hw) (wd_40 hw) (by decide) (by decide) (fun T h1 b1 g1 gn1 X E1 A1 D1 => ?_)
  have sz_b1 : h0.size ≤ b1 := Nat.le_trans (Keep.refl h0 []).1 (Nat.le_of_eq g1.symm)
  have K1 : Keep h0 h1 [] := (Keep.refl h0 []).ext E1
  refine w_dup X q8_11_3 rfl ?_
  refine w_callI X q8_11_4 rfl (wd_41 hw) (wd_42 hw) (wd_40 hw) (wd_43 hw) (by decide) (argsL := []) (S := [(.ref b1)]) (m_sb hw hS gn1 A1 (show Fld Z h1 b1 "java/lang/AbstractStringBuilder" "value" "[B" .null from D1 (Or.inl (wd_53 hw)) (ty := (.array .byte)) (by decide)) (show Fld Z h1 b1 "java/lang/AbstractStringBuilder" "coder" "B" (.int 0) from D1 (Or.inl (wd_55 hw)) (ty := .byte) (by decide)) (show Fld Z h1 b1 "java/lang/AbstractStringBuilder" "count" "I" (.int 0) from D1 (Or.inl (wd_79 hw)) (ty := .int) (by decide))) pd_27 rfl rfl rfl (by decide) (leR rfl) (by decide) (by decide) (fun T h2 v2 L2 X q2 => ?_)
  obtain ⟨rfl, Kc2, d2, gt2, gn2, Bd2, Ed2⟩ := q2
  have K2 : Keep h0 h2 [] := K1.trans Kc2 (fun x hx => by cases List.mem_singleton.mp hx; exact (Or.inr sz_b1))
  have sz_d2 : h0.size ≤ d2 := Nat.le_trans K1.1 gt2
  replace Bd2 : Bld Z h2 b1 d2 (0 : Int32) [(.int 0), (.int 0), (.int 0), (.int 0), (.int 0), (.int 0), (.int 0), (.int 0), (.int 0), (.int 0), (.int 0), (.int 0), (.int 0), (.int 0), (.int 0), (.int 0)] := Bd2
  show Wp _ _ _ _ (T.setTop (mkF _ _ _ [(.ref b1)]))
  refine v_ldcX X Y q8_11_7 (wd_56 hw) (own_wS hw) (by rw [hs0]; exact fun b c r => K2.2.1 b c r List.not_mem_nil) (by rw [hs0]; exact hZ0) (by rw [hs0]; exact Gs.2.1) (Gs.2.1.keep K2) (hheld _ (List.mem_of_getElem? (i := 0) rfl)) hcw [(.int 67), (.int 97), (.int 110), (.int 110), (.int 111), (.int 116), (.int 32), (.int 100), (.int 101), (.int 112), (.int 108), (.int 111), (.int 121), (.int 32)] (by decide) 56 (by decide) (by decide) (by decide) (by decide) (fun T h3 u kk a3 b3 X Y Ex3 E3 C3 V3 B3 M3 O3 L3 N3 => ?_)
  have K3 : Keep h0 h3 [] := K2.ext Ex3
  have f4 := (Bd2.1.ext Ex3)
  have n13 : a3 ≠ b1 := own_neC E3 f4 (by decide)
  have n23 : b3 ≠ b1 := Ne.symm (own_ane f4 (wd_39 hw) B3)
  have f5 := (Bd2.2.2.2.2.ext Ex3)
  have n33 : a3 ≠ d2 := own_ane E3 (wd_8 hw) f5
  have n43 : b3 ≠ d2 := own_aryNe B3 f5 (by decide)
  have f6 := (Bd2.2.1.ext Ex3)
  have f7 := (Bd2.2.2.1.ext Ex3)
  have f8 := (Bd2.2.2.2.1.ext Ex3)
  refine w_callV X q8_11_9 (wd_57 hw) (wd_58 hw) (nfs X.hZ (wd_60 hw)) (wd_60 hw) (wd_59 hw) (wd_40 hw) (wd_61 hw) (by decide) f4 (argsL := [(.ref a3)]) (S := []) (m_app hw hS gn1 gn2 ⟨f4, f6, f7, f8, f5⟩ ⟨E3, C3, V3, B3⟩ (k := (0 : Int32)) (n := (14 : Int32)) (cp := (16 : Int32)) rfl (by decide) rfl (by decide) (leR rfl)) pd_28 rfl rfl rfl (by decide) (leR rfl) (by decide) (by decide) (fun T h4 v4 L4 X q4 => ?_)
  obtain ⟨rfl, Kc4, Bd4⟩ := q4
  have K9 : Keep h0 h4 [] := K3.trans Kc4 (fun x hx => by simp only [List.mem_cons, List.not_mem_nil, or_false] at hx; rcases hx with rfl | rfl <;> first | exact (Or.inr sz_b1) | exact (Or.inr sz_d2))
  replace Bd4 : Bld Z h4 b1 d2 (14 : Int32) [(.int 67), (.int 97), (.int 110), (.int 110), (.int 111), (.int 116), (.int 32), (.int 100), (.int 101), (.int 112), (.int 108), (.int 111), (.int 121), (.int 32), (.int 0), (.int 0)] := Bd4
  show Wp _ _ _ _ (T.setTop (mkF _ _ _ [(.ref b1)]))
  refine w_aloadN X q8_11_12 rfl (rfl) ?_
  have f10 := ((((T1.ext E1).keep Kc2 (ni1 (nel (ltl T1.1.lt (Nat.le_of_eq g1.symm)))) (ni1 (nel (ltl T1.2.2.2.lt (Nat.le_of_eq g1.symm))))).ext Ex3).keep Kc4 (ni2 ⟨(nel (ltl T1.1.lt (Nat.le_of_eq g1.symm))), (nel (ltl (ltl T1.1.lt E1.1) gt2))⟩) (ni2 ⟨(nel (ltl T1.2.2.2.lt (Nat.le_of_eq g1.symm))), (nel (ltl (ltl T1.2.2.2.lt E1.1) gt2))⟩))
  refine w_callV X q8_11_13 (wd_57 hw) (wd_58 hw) (nfs X.hZ (wd_60 hw)) (wd_60 hw) (wd_59 hw) (wd_40 hw) (wd_61 hw) (by decide) Bd4.1 (argsL := [(.ref p1)]) (S := []) (m_apg_14_3 hw hS gn1 gn2 ⟨Bd4.1, Bd4.2.1, Bd4.2.2.1, Bd4.2.2.2.1, Bd4.2.2.2.2⟩ f10 rfl rfl rfl rfl) pd_28 rfl rfl rfl (by decide) (leR rfl) (by decide) (by decide) (fun T h5 v5 L5 X q5 => ?_)
  obtain ⟨rfl, Kc5, d5, gt5, gn5, Bd5, Ed5⟩ := q5
  have K11 : Keep h0 h5 [] := K9.trans Kc5 (fun x hx => by cases List.mem_singleton.mp hx; exact (Or.inr sz_b1))
  have sz_d5 : h0.size ≤ d5 := Nat.le_trans K9.1 gt5
  replace Bd5 : Bld Z h5 b1 d5 (17 : Int32) [(.int 67), (.int 97), (.int 110), (.int 110), (.int 111), (.int 116), (.int 32), (.int 100), (.int 101), (.int 112), (.int 108), (.int 111), (.int 121), (.int 32), (.int x0), (.int x1), (.int x2), (.int 0), (.int 0), (.int 0), (.int 0), (.int 0), (.int 0), (.int 0), (.int 0), (.int 0), (.int 0), (.int 0), (.int 0), (.int 0), (.int 0), (.int 0), (.int 0), (.int 0)] := Bd5
  show Wp _ _ _ _ (T.setTop (mkF _ _ _ [(.ref b1)]))
  refine v_ldcX X Y q8_11_16 (wd_105 hw) (own_wS hw) (by rw [hs0]; exact fun b c r => K11.2.1 b c r List.not_mem_nil) (by rw [hs0]; exact hZ0) (by rw [hs0]; exact own_EtO Gs.2.2 (Keep.refl _ _) (fun us hus => N3.2.2.1 _ us (by decide) hus) N3.2.2.2) (own_EtO Gs.2.2 K11 (fun us hus => N3.2.2.1 _ us (by decide) hus) N3.2.2.2) (hheld _ (List.mem_of_getElem? (i := 1) rfl)) hcw [(.int 58), (.int 32)] (by decide) 8 (by decide) (by decide) (by decide) (by decide) (fun T h6 u kk a6 b6 X Y Ex6 E6 C6 V6 B6 M6 O6 L6 N6 => ?_)
  have K12 : Keep h0 h6 [] := K11.ext Ex6
  have f13 := (Bd5.1.ext Ex6)
  have f14 := (Bd5.2.1.ext Ex6)
  have f15 := (Bd5.2.2.1.ext Ex6)
  have f16 := (Bd5.2.2.2.1.ext Ex6)
  have f17 := (Bd5.2.2.2.2.ext Ex6)
  refine w_callV X q8_11_18 (wd_57 hw) (wd_58 hw) (nfs X.hZ (wd_60 hw)) (wd_60 hw) (wd_59 hw) (wd_40 hw) (wd_61 hw) (by decide) f13 (argsL := [(.ref a6)]) (S := []) (m_app hw hS gn1 gn5 ⟨f13, f14, f15, f16, f17⟩ ⟨E6, C6, V6, B6⟩ (k := (17 : Int32)) (n := (2 : Int32)) (cp := (34 : Int32)) rfl (by decide) rfl (by decide) (leR rfl)) pd_28 rfl rfl rfl (by decide) (leR rfl) (by decide) (by decide) (fun T h7 v7 L7 X q7 => ?_)
  obtain ⟨rfl, Kc7, Bd7⟩ := q7
  have K18 : Keep h0 h7 [] := K12.trans Kc7 (fun x hx => by simp only [List.mem_cons, List.not_mem_nil, or_false] at hx; rcases hx with rfl | rfl <;> first | exact (Or.inr sz_b1) | exact (Or.inr sz_d5))
  replace Bd7 : Bld Z h7 b1 d5 (19 : Int32) [(.int 67), (.int 97), (.int 110), (.int 110), (.int 111), (.int 116), (.int 32), (.int 100), (.int 101), (.int 112), (.int 108), (.int 111), (.int 121), (.int 32), (.int x0), (.int x1), (.int x2), (.int 58), (.int 32), (.int 0), (.int 0), (.int 0), (.int 0), (.int 0), (.int 0), (.int 0), (.int 0), (.int 0), (.int 0), (.int 0), (.int 0), (.int 0), (.int 0), (.int 0)] := Bd7
  show Wp _ _ _ _ (T.setTop (mkF _ _ _ [(.ref b1)]))
  refine w_aloadN X q8_11_21 rfl (rfl) ?_
  have f19 := (((((((T2.ext E1).keep Kc2 (ni1 (nel (ltl T2.1.lt (Nat.le_of_eq g1.symm)))) (ni1 (nel (ltl T2.2.2.2.lt (Nat.le_of_eq g1.symm))))).ext Ex3).keep Kc4 (ni2 ⟨(nel (ltl T2.1.lt (Nat.le_of_eq g1.symm))), (nel (ltl (ltl T2.1.lt E1.1) gt2))⟩) (ni2 ⟨(nel (ltl T2.2.2.2.lt (Nat.le_of_eq g1.symm))), (nel (ltl (ltl T2.2.2.2.lt E1.1) gt2))⟩)).keep Kc5 (ni1 (nel (ltl T2.1.lt (Nat.le_of_eq g1.symm)))) (ni1 (nel (ltl T2.2.2.2.lt (Nat.le_of_eq g1.symm))))).ext Ex6).keep Kc7 (ni2 ⟨(nel (ltl T2.1.lt (Nat.le_of_eq g1.symm))), (nel (ltl (ltl (ltl (ltl (ltl T2.1.lt E1.1) Kc2.1) Ex3.1) Kc4.1) gt5))⟩) (ni2 ⟨(nel (ltl T2.2.2.2.lt (Nat.le_of_eq g1.symm))), (nel (ltl (ltl (ltl (ltl (ltl T2.2.2.2.lt E1.1) Kc2.1) Ex3.1) Kc4.1) gt5))⟩))
  refine w_callV X q8_11_22 (wd_57 hw) (wd_58 hw) (nfs X.hZ (wd_60 hw)) (wd_60 hw) (wd_59 hw) (wd_40 hw) (wd_61 hw) (by decide) Bd7.1 (argsL := [(.ref p2)]) (S := []) (m_app hw hS gn1 gn5 ⟨Bd7.1, Bd7.2.1, Bd7.2.2.1, Bd7.2.2.2.1, Bd7.2.2.2.2⟩ f19 (k := (19 : Int32)) (n := (2 : Int32)) (cp := (34 : Int32)) rfl (by decide) rfl (by decide) (leR rfl)) pd_28 rfl rfl rfl (by decide) (leR rfl) (by decide) (by decide) (fun T h8 v8 L8 X q8 => ?_)
  obtain ⟨rfl, Kc8, Bd8⟩ := q8
  have K20 : Keep h0 h8 [] := K18.trans Kc8 (fun x hx => by simp only [List.mem_cons, List.not_mem_nil, or_false] at hx; rcases hx with rfl | rfl <;> first | exact (Or.inr sz_b1) | exact (Or.inr sz_d5))
  replace Bd8 : Bld Z h8 b1 d5 (21 : Int32) [(.int 67), (.int 97), (.int 110), (.int 110), (.int 111), (.int 116), (.int 32), (.int 100), (.int 101), (.int 112), (.int 108), (.int 111), (.int 121), (.int 32), (.int x0), (.int x1), (.int x2), (.int 58), (.int 32), (.int y0), (.int y1), (.int 0), (.int 0), (.int 0), (.int 0), (.int 0), (.int 0), (.int 0), (.int 0), (.int 0), (.int 0), (.int 0), (.int 0), (.int 0)] := Bd8
  show Wp _ _ _ _ (T.setTop (mkF _ _ _ [(.ref b1)]))
  refine w_callV X q8_11_25 (wd_106 hw) (wd_107 hw) (nfs X.hZ (wd_109 hw)) (wd_109 hw) (wd_108 hw) (wd_40 hw) (wd_110 hw) (by decide) Bd8.1 (argsL := []) (S := []) (m_ts_21 hw hS ⟨Bd8.1, Bd8.2.1, Bd8.2.2.1, Bd8.2.2.2.1, Bd8.2.2.2.2⟩ rfl rfl) pd_29 rfl rfl rfl (by decide) (leR rfl) (by decide) (by decide) (fun T h9 v9 L9 X q9 => ?_)
  obtain ⟨r9, t9, rfl, ga9, gb9, gc9, gd9, Tx9, Kc9⟩ := q9
  have K21 : Keep h0 h9 [] := K20.trans Kc9 (fun x hx => nomatch hx)
  replace Tx9 : Lat Z h9 r9 t9 (0 : Int32) [(.int 67), (.int 97), (.int 110), (.int 110), (.int 111), (.int 116), (.int 32), (.int 100), (.int 101), (.int 112), (.int 108), (.int 111), (.int 121), (.int 32), (.int x0), (.int x1), (.int x2), (.int 58), (.int 32), (.int y0), (.int y1)] := Tx9
  show Wp _ _ _ _ (T.setTop (mkF _ _ _ [(.ref r9)]))
  have f22 := ((((((E3.keep Kc4).keep Kc5).ext Ex6).keep Kc7).keep Kc8).keep Kc9)
  have f23 := ((((((C3.keep Kc4 (ni2 ⟨n13, n33⟩)).keep Kc5 (ni1 n13)).ext Ex6).keep Kc7 (ni2 ⟨n13, (nel (ltl (ltl E3.lt Kc4.1) gt5))⟩)).keep Kc8 (ni2 ⟨n13, (nel (ltl (ltl E3.lt Kc4.1) gt5))⟩)).keep Kc9 (List.not_mem_nil))
  have f24 := ((((((V3.keep Kc4 (ni2 ⟨n13, n33⟩)).keep Kc5 (ni1 n13)).ext Ex6).keep Kc7 (ni2 ⟨n13, (nel (ltl (ltl E3.lt Kc4.1) gt5))⟩)).keep Kc8 (ni2 ⟨n13, (nel (ltl (ltl E3.lt Kc4.1) gt5))⟩)).keep Kc9 (List.not_mem_nil))
  have f25 := ((((((B3.keep Kc4 (ni2 ⟨n23, n43⟩)).keep Kc5 (ni1 n23)).ext Ex6).keep Kc7 (ni2 ⟨n23, (nel (ltl (ltl B3.lt Kc4.1) gt5))⟩)).keep Kc8 (ni2 ⟨n23, (nel (ltl (ltl B3.lt Kc4.1) gt5))⟩)).keep Kc9 (List.not_mem_nil))
  have f26 := ((((((N3.1.keep Kc4).keep Kc5).ext Ex6).keep Kc7).keep Kc8).keep Kc9)
  exact g_retR X Y rfl (rfl) rfl q8_11_28 (fun vm' hW => ⟨_, _, rfl, Tx9, K21, own_EtF Gs.2.1 K21 N3.2.1 (fun us hus => N6.2.2.1 _ us (by decide) hus) hW.interned_eq ((N3.2.2.2.trans N6.2.2.2).trans hW.alike) (X.hZ.alike.trans hW.alike) ⟨by decide, rfl⟩ (wd_8 hw) ⟨f22, f23, f24, f25⟩ f26⟩) (by decide) (by decide)
theorem m_msg_3_3 (hw : own_hw a0 Z) {h0 : Heap} {zc : Int32} {fm : Value} {p1 p2 t1 t2 : Addr} {x0 x1 x2 y0 y1 y2 : Int32} (hS : own_S Z zc fm) (hheld : ∀ p ∈ consts_1, Jvm.Lit.constHeld Z p.1 p.2) (hcw : Jvm.Lit.compactW.before a0 Z = true) (T1 : Lat Z h0 p1 t1 (0 : Int32) [(.int x0), (.int x1), (.int x2)]) (T2 : Lat Z h0 p2 t2 (0 : Int32) [(.int y0), (.int y1), (.int y2)]) :
    DoesG l Z n0 (own_G Z h0) ⟨"com/example/inflow/inflow/model/DeploymentException", "message", "(Ljava/lang/String;Ljava/lang/String;)Ljava/lang/String;"⟩ prog_8_method_11_code 2 (some (.object "java/lang/String")) [] { frames := 6, cells := 9, slots := 152, locals := 113 } #[(.ref p1), (.ref p2)] h0 (fun v h vm => ∃ a t, v = some (.ref a) ∧ Lat Z h a t (0 : Int32) [(.int 67), (.int 97), (.int 110), (.int 110), (.int 111), (.int 116), (.int 32), (.int 100), (.int 101), (.int 112), (.int 108), (.int 111), (.int 121), (.int 32), (.int x0), (.int x1), (.int x2), (.int 58), (.int 32), (.int y0), (.int y1), (.int y2)] ∧ Keep h0 h [] ∧ Et Z "Cannot deploy " h vm) := by
  refine DoesG.start (plainFor_of_name pn_9) ?_
  obtain ⟨S_zc, hzc, S_fm, hfm⟩ := id hS
  intro p e s m below meth c T X Y hs0 Gs
  replace X : Sd _ _ _ _ _ "com/example/inflow/inflow/model/DeploymentException" "message" _ _ _ _ _ _ _ _ _ _ _ _ _ _ _ _ := X
  refine Wp.cast (g' := mkF m 0 #[.val (.ref p1), .val (.ref p2)] []) (by first | (simp [entryFrame, mkF, argsToLocals, Value.category, maxLocals]; done) | rfl) ?_
  have hZ0 := X.old.2.2
  refine w_new X q8_11_0 (wd_38 hw) (wd_39 hw) (wd_40 hw) (by decide) (by decide) (fun T h1 b1 g1 gn1 X E1 A1 D1 => ?_)
  have sz_b1 : h0.size ≤ b1 := Nat.le_trans (Keep.refl h0 []).1 (Nat.le_of_eq g1.symm)
  have K1 : Keep h0 h1 [] := (Keep.refl h0 []).ext E1
  refine w_dup X q8_11_3 rfl ?_
  refine w_callI X q8_11_4 rfl (wd_41 hw) (wd_42 hw) (wd_40 hw) (wd_43 hw) (by decide) (argsL := []) (S := [(.ref b1)]) (m_sb hw hS gn1 A1 (show Fld Z h1 b1 "java/lang/AbstractStringBuilder" "value" "[B" .null from D1 (Or.inl (wd_53 hw)) (ty := (.array .byte)) (by decide)) (show Fld Z h1 b1 "java/lang/AbstractStringBuilder" "coder" "B" (.int 0) from D1 (Or.inl (wd_55 hw)) (ty := .byte) (by decide)) (show Fld Z h1 b1 "java/lang/AbstractStringBuilder" "count" "I" (.int 0) from D1 (Or.inl (wd_79 hw)) (ty := .int) (by decide))) pd_27 rfl rfl rfl (by decide) (leR rfl) (by decide) (by decide) (fun T h2 v2 L2 X q2 => ?_)
  obtain ⟨rfl, Kc2, d2, gt2, gn2, Bd2, Ed2⟩ := q2
  have K2 : Keep h0 h2 [] := K1.trans Kc2 (fun x hx => by cases List.mem_singleton.mp hx; exact (Or.inr sz_b1))
  have sz_d2 : h0.size ≤ d2 := Nat.le_trans K1.1 gt2
  replace Bd2 : Bld Z h2 b1 d2 (0 : Int32) [(.int 0), (.int 0), (.int 0), (.int 0), (.int 0), (.int 0), (.int 0), (.int 0), (.int 0), (.int 0), (.int 0), (.int 0), (.int 0), (.int 0), (.int 0), (.int 0)] := Bd2
  show Wp _ _ _ _ (T.setTop (mkF _ _ _ [(.ref b1)]))
  refine v_ldcX X Y q8_11_7 (wd_56 hw) (own_wS hw) (by rw [hs0]; exact fun b c r => K2.2.1 b c r List.not_mem_nil) (by rw [hs0]; exact hZ0) (by rw [hs0]; exact Gs.2.1) (Gs.2.1.keep K2) (hheld _ (List.mem_of_getElem? (i := 0) rfl)) hcw [(.int 67), (.int 97), (.int 110), (.int 110), (.int 111), (.int 116), (.int 32), (.int 100), (.int 101), (.int 112), (.int 108), (.int 111), (.int 121), (.int 32)] (by decide) 56 (by decide) (by decide) (by decide) (by decide) (fun T h3 u kk a3 b3 X Y Ex3 E3 C3 V3 B3 M3 O3 L3 N3 => ?_)
  have K3 : Keep h0 h3 [] := K2.ext Ex3
  have f4 := (Bd2.1.ext Ex3)
  have n13 : a3 ≠ b1 := own_neC E3 f4 (by decide)
  have n23 : b3 ≠ b1 := Ne.symm (own_ane f4 (wd_39 hw) B3)
  have f5 := (Bd2.2.2.2.2.ext Ex3)
  have n33 : a3 ≠ d2 := own_ane E3 (wd_8 hw) f5
  have n43 : b3 ≠ d2 := own_aryNe B3 f5 (by decide)
  have f6 := (Bd2.2.1.ext Ex3)
  have f7 := (Bd2.2.2.1.ext Ex3)
  have f8 := (Bd2.2.2.2.1.ext Ex3)
  refine w_callV X q8_11_9 (wd_57 hw) (wd_58 hw) (nfs X.hZ (wd_60 hw)) (wd_60 hw) (wd_59 hw) (wd_40 hw) (wd_61 hw) (by decide) f4 (argsL := [(.ref a3)]) (S := []) (m_app hw hS gn1 gn2 ⟨f4, f6, f7, f8, f5⟩ ⟨E3, C3, V3, B3⟩ (k := (0 : Int32)) (n := (14 : Int32)) (cp := (16 : Int32)) rfl (by decide) rfl (by decide) (leR rfl)) pd_28 rfl rfl rfl (by decide) (leR rfl) (by decide) (by decide) (fun T h4 v4 L4 X q4 => ?_)
  obtain ⟨rfl, Kc4, Bd4⟩ := q4
  have K9 : Keep h0 h4 [] := K3.trans Kc4 (fun x hx => by simp only [List.mem_cons, List.not_mem_nil, or_false] at hx; rcases hx with rfl | rfl <;> first | exact (Or.inr sz_b1) | exact (Or.inr sz_d2))
  replace Bd4 : Bld Z h4 b1 d2 (14 : Int32) [(.int 67), (.int 97), (.int 110), (.int 110), (.int 111), (.int 116), (.int 32), (.int 100), (.int 101), (.int 112), (.int 108), (.int 111), (.int 121), (.int 32), (.int 0), (.int 0)] := Bd4
  show Wp _ _ _ _ (T.setTop (mkF _ _ _ [(.ref b1)]))
  refine w_aloadN X q8_11_12 rfl (rfl) ?_
  have f10 := ((((T1.ext E1).keep Kc2 (ni1 (nel (ltl T1.1.lt (Nat.le_of_eq g1.symm)))) (ni1 (nel (ltl T1.2.2.2.lt (Nat.le_of_eq g1.symm))))).ext Ex3).keep Kc4 (ni2 ⟨(nel (ltl T1.1.lt (Nat.le_of_eq g1.symm))), (nel (ltl (ltl T1.1.lt E1.1) gt2))⟩) (ni2 ⟨(nel (ltl T1.2.2.2.lt (Nat.le_of_eq g1.symm))), (nel (ltl (ltl T1.2.2.2.lt E1.1) gt2))⟩))
  refine w_callV X q8_11_13 (wd_57 hw) (wd_58 hw) (nfs X.hZ (wd_60 hw)) (wd_60 hw) (wd_59 hw) (wd_40 hw) (wd_61 hw) (by decide) Bd4.1 (argsL := [(.ref p1)]) (S := []) (m_apg_14_3 hw hS gn1 gn2 ⟨Bd4.1, Bd4.2.1, Bd4.2.2.1, Bd4.2.2.2.1, Bd4.2.2.2.2⟩ f10 rfl rfl rfl rfl) pd_28 rfl rfl rfl (by decide) (leR rfl) (by decide) (by decide) (fun T h5 v5 L5 X q5 => ?_)
  obtain ⟨rfl, Kc5, d5, gt5, gn5, Bd5, Ed5⟩ := q5
  have K11 : Keep h0 h5 [] := K9.trans Kc5 (fun x hx => by cases List.mem_singleton.mp hx; exact (Or.inr sz_b1))
  have sz_d5 : h0.size ≤ d5 := Nat.le_trans K9.1 gt5
  replace Bd5 : Bld Z h5 b1 d5 (17 : Int32) [(.int 67), (.int 97), (.int 110), (.int 110), (.int 111), (.int 116), (.int 32), (.int 100), (.int 101), (.int 112), (.int 108), (.int 111), (.int 121), (.int 32), (.int x0), (.int x1), (.int x2), (.int 0), (.int 0), (.int 0), (.int 0), (.int 0), (.int 0), (.int 0), (.int 0), (.int 0), (.int 0), (.int 0), (.int 0), (.int 0), (.int 0), (.int 0), (.int 0), (.int 0)] := Bd5
  show Wp _ _ _ _ (T.setTop (mkF _ _ _ [(.ref b1)]))
  refine v_ldcX X Y q8_11_16 (wd_105 hw) (own_wS hw) (by rw [hs0]; exact fun b c r => K11.2.1 b c r List.not_mem_nil) (by rw [hs0]; exact hZ0) (by rw [hs0]; exact own_EtO Gs.2.2 (Keep.refl _ _) (fun us hus => N3.2.2.1 _ us (by decide) hus) N3.2.2.2) (own_EtO Gs.2.2 K11 (fun us hus => N3.2.2.1 _ us (by decide) hus) N3.2.2.2) (hheld _ (List.mem_of_getElem? (i := 1) rfl)) hcw [(.int 58), (.int 32)] (by decide) 8 (by decide) (by decide) (by decide) (by decide) (fun T h6 u kk a6 b6 X Y Ex6 E6 C6 V6 B6 M6 O6 L6 N6 => ?_)
  have K12 : Keep h0 h6 [] := K11.ext Ex6
  have f13 := (Bd5.1.ext Ex6)
  have f14 := (Bd5.2.1.ext Ex6)
  have f15 := (Bd5.2.2.1.ext Ex6)
  have f16 := (Bd5.2.2.2.1.ext Ex6)
  have f17 := (Bd5.2.2.2.2.ext Ex6)
  refine w_callV X q8_11_18 (wd_57 hw) (wd_58 hw) (nfs X.hZ (wd_60 hw)) (wd_60 hw) (wd_59 hw) (wd_40 hw) (wd_61 hw) (by decide) f13 (argsL := [(.ref a6)]) (S := []) (m_app hw hS gn1 gn5 ⟨f13, f14, f15, f16, f17⟩ ⟨E6, C6, V6, B6⟩ (k := (17 : Int32)) (n := (2 : Int32)) (cp := (34 : Int32)) rfl (by decide) rfl (by decide) (leR rfl)) pd_28 rfl rfl rfl (by decide) (leR rfl) (by decide) (by decide) (fun T h7 v7 L7 X q7 => ?_)
  obtain ⟨rfl, Kc7, Bd7⟩ := q7
  have K18 : Keep h0 h7 [] := K12.trans Kc7 (fun x hx => by simp only [List.mem_cons, List.not_mem_nil, or_false] at hx; rcases hx with rfl | rfl <;> first | exact (Or.inr sz_b1) | exact (Or.inr sz_d5))
  replace Bd7 : Bld Z h7 b1 d5 (19 : Int32) [(.int 67), (.int 97), (.int 110), (.int 110), (.int 111), (.int 116), (.int 32), (.int 100), (.int 101), (.int 112), (.int 108), (.int 111), (.int 121), (.int 32), (.int x0), (.int x1), (.int x2), (.int 58), (.int 32), (.int 0), (.int 0), (.int 0), (.int 0), (.int 0), (.int 0), (.int 0), (.int 0), (.int 0), (.int 0), (.int 0), (.int 0), (.int 0), (.int 0), (.int 0)] := Bd7
  show Wp _ _ _ _ (T.setTop (mkF _ _ _ [(.ref b1)]))
  refine w_aloadN X q8_11_21 rfl (rfl) ?_
  have f19 := (((((((T2.ext E1).keep Kc2 (ni1 (nel (ltl T2.1.lt (Nat.le_of_eq g1.symm)))) (ni1 (nel (ltl T2.2.2.2.lt (Nat.le_of_eq g1.symm))))).ext Ex3).keep Kc4 (ni2 ⟨(nel (ltl T2.1.lt (Nat.le_of_eq g1.symm))), (nel (ltl (ltl T2.1.lt E1.1) gt2))⟩) (ni2 ⟨(nel (ltl T2.2.2.2.lt (Nat.le_of_eq g1.symm))), (nel (ltl (ltl T2.2.2.2.lt E1.1) gt2))⟩)).keep Kc5 (ni1 (nel (ltl T2.1.lt (Nat.le_of_eq g1.symm)))) (ni1 (nel (ltl T2.2.2.2.lt (Nat.le_of_eq g1.symm))))).ext Ex6).keep Kc7 (ni2 ⟨(nel (ltl T2.1.lt (Nat.le_of_eq g1.symm))), (nel (ltl (ltl (ltl (ltl (ltl T2.1.lt E1.1) Kc2.1) Ex3.1) Kc4.1) gt5))⟩) (ni2 ⟨(nel (ltl T2.2.2.2.lt (Nat.le_of_eq g1.symm))), (nel (ltl (ltl (ltl (ltl (ltl T2.2.2.2.lt E1.1) Kc2.1) Ex3.1) Kc4.1) gt5))⟩))
  refine w_callV X q8_11_22 (wd_57 hw) (wd_58 hw) (nfs X.hZ (wd_60 hw)) (wd_60 hw) (wd_59 hw) (wd_40 hw) (wd_61 hw) (by decide) Bd7.1 (argsL := [(.ref p2)]) (S := []) (m_app hw hS gn1 gn5 ⟨Bd7.1, Bd7.2.1, Bd7.2.2.1, Bd7.2.2.2.1, Bd7.2.2.2.2⟩ f19 (k := (19 : Int32)) (n := (3 : Int32)) (cp := (34 : Int32)) rfl (by decide) rfl (by decide) (leR rfl)) pd_28 rfl rfl rfl (by decide) (leR rfl) (by decide) (by decide) (fun T h8 v8 L8 X q8 => ?_)
  obtain ⟨rfl, Kc8, Bd8⟩ := q8
  have K20 : Keep h0 h8 [] := K18.trans Kc8 (fun x hx => by simp only [List.mem_cons, List.not_mem_nil, or_false] at hx; rcases hx with rfl | rfl <;> first | exact (Or.inr sz_b1) | exact (Or.inr sz_d5))
  replace Bd8 : Bld Z h8 b1 d5 (22 : Int32) [(.int 67), (.int 97), (.int 110), (.int 110), (.int 111), (.int 116), (.int 32), (.int 100), (.int 101), (.int 112), (.int 108), (.int 111), (.int 121), (.int 32), (.int x0), (.int x1), (.int x2), (.int 58), (.int 32), (.int y0), (.int y1), (.int y2), (.int 0), (.int 0), (.int 0), (.int 0), (.int 0), (.int 0), (.int 0), (.int 0), (.int 0), (.int 0), (.int 0), (.int 0)] := Bd8
  show Wp _ _ _ _ (T.setTop (mkF _ _ _ [(.ref b1)]))
  refine w_callV X q8_11_25 (wd_106 hw) (wd_107 hw) (nfs X.hZ (wd_109 hw)) (wd_109 hw) (wd_108 hw) (wd_40 hw) (wd_110 hw) (by decide) Bd8.1 (argsL := []) (S := []) (m_ts_22 hw hS ⟨Bd8.1, Bd8.2.1, Bd8.2.2.1, Bd8.2.2.2.1, Bd8.2.2.2.2⟩ rfl rfl) pd_29 rfl rfl rfl (by decide) (leR rfl) (by decide) (by decide) (fun T h9 v9 L9 X q9 => ?_)
  obtain ⟨r9, t9, rfl, ga9, gb9, gc9, gd9, Tx9, Kc9⟩ := q9
  have K21 : Keep h0 h9 [] := K20.trans Kc9 (fun x hx => nomatch hx)
  replace Tx9 : Lat Z h9 r9 t9 (0 : Int32) [(.int 67), (.int 97), (.int 110), (.int 110), (.int 111), (.int 116), (.int 32), (.int 100), (.int 101), (.int 112), (.int 108), (.int 111), (.int 121), (.int 32), (.int x0), (.int x1), (.int x2), (.int 58), (.int 32), (.int y0), (.int y1), (.int y2)] := Tx9
  show Wp _ _ _ _ (T.setTop (mkF _ _ _ [(.ref r9)]))
  have f22 := ((((((E3.keep Kc4).keep Kc5).ext Ex6).keep Kc7).keep Kc8).keep Kc9)
  have f23 := ((((((C3.keep Kc4 (ni2 ⟨n13, n33⟩)).keep Kc5 (ni1 n13)).ext Ex6).keep Kc7 (ni2 ⟨n13, (nel (ltl (ltl E3.lt Kc4.1) gt5))⟩)).keep Kc8 (ni2 ⟨n13, (nel (ltl (ltl E3.lt Kc4.1) gt5))⟩)).keep Kc9 (List.not_mem_nil))
  have f24 := ((((((V3.keep Kc4 (ni2 ⟨n13, n33⟩)).keep Kc5 (ni1 n13)).ext Ex6).keep Kc7 (ni2 ⟨n13, (nel (ltl (ltl E3.lt Kc4.1) gt5))⟩)).keep Kc8 (ni2 ⟨n13, (nel (ltl (ltl E3.lt Kc4.1) gt5))⟩)).keep Kc9 (List.not_mem_nil))
  have f25 := ((((((B3.keep Kc4 (ni2 ⟨n23, n43⟩)).keep Kc5 (ni1 n23)).ext Ex6).keep Kc7 (ni2 ⟨n23, (nel (ltl (ltl B3.lt Kc4.1) gt5))⟩)).keep Kc8 (ni2 ⟨n23, (nel (ltl (ltl B3.lt Kc4.1) gt5))⟩)).keep Kc9 (List.not_mem_nil))
  have f26 := ((((((N3.1.keep Kc4).keep Kc5).ext Ex6).keep Kc7).keep Kc8).keep Kc9)
  exact g_retR X Y rfl (rfl) rfl q8_11_28 (fun vm' hW => ⟨_, _, rfl, Tx9, K21, own_EtF Gs.2.1 K21 N3.2.1 (fun us hus => N6.2.2.1 _ us (by decide) hus) hW.interned_eq ((N3.2.2.2.trans N6.2.2.2).trans hW.alike) (X.hZ.alike.trans hW.alike) ⟨by decide, rfl⟩ (wd_8 hw) ⟨f22, f23, f24, f25⟩ f26⟩) (by decide) (by decide)
theorem own_thrW {Z : State} {a0 : Array Value} (hw : own_hw a0 Z) : ∀ d ∈ own_thr "com/example/inflow/inflow/model/DeploymentException", d.before a0 Z = true :=
  (List.forall_mem_cons.mpr ⟨(wd_167 hw), (List.forall_mem_cons.mpr ⟨(wd_185 hw), (List.forall_mem_cons.mpr ⟨(wd_180 hw), (List.forall_mem_cons.mpr ⟨(wd_186 hw), (List.forall_mem_cons.mpr ⟨(wd_187 hw), (List.forall_mem_cons.mpr ⟨(wd_188 hw), (List.forall_mem_cons.mpr ⟨(wd_189 hw), (List.forall_mem_cons.mpr ⟨(wd_190 hw), (List.forall_mem_cons.mpr ⟨(wd_19 hw), (List.forall_mem_cons.mpr ⟨(wd_20 hw), (List.forall_mem_cons.mpr ⟨(wd_169 hw), (List.forall_mem_cons.mpr ⟨(wd_178 hw), (List.forall_mem_cons.mpr ⟨(wd_191 hw), (List.forall_mem_cons.mpr ⟨(wd_170 hw), (List.forall_mem_cons.mpr ⟨(wd_192 hw), (List.forall_mem_cons.mpr ⟨(wd_173 hw), (List.forall_mem_cons.mpr ⟨(wd_193 hw), (List.forall_mem_cons.mpr ⟨(wd_176 hw), (List.forall_mem_cons.mpr ⟨(wd_172 hw), (List.forall_mem_cons.mpr ⟨(wd_198 hw), (List.forall_mem_cons.mpr ⟨(wd_175 hw), (List.forall_mem_cons.mpr ⟨(wd_199 hw), (List.forall_mem_cons.mpr ⟨(wd_194 hw), (List.forall_mem_cons.mpr ⟨(wd_179 hw), (List.forall_mem_cons.mpr ⟨(wd_200 hw), (List.forall_mem_cons.mpr ⟨(wd_181 hw), (List.forall_mem_cons.mpr ⟨(wd_171 hw), (List.forall_mem_cons.mpr ⟨(wd_174 hw), (List.forall_mem_cons.mpr ⟨(wd_177 hw), (List.forall_mem_cons.mpr ⟨(wd_201 hw), (List.forall_mem_cons.mpr ⟨(wd_196 hw), (List.forall_mem_cons.mpr ⟨(wd_197 hw), (List.forall_mem_cons.mpr ⟨(wd_202 hw), (List.forall_mem_cons.mpr ⟨(wd_182 hw), (List.forall_mem_cons.mpr ⟨(wd_183 hw), (List.forall_mem_cons.mpr ⟨(wd_184 hw), (List.forall_mem_cons.mpr ⟨(wd_203 hw), (fun _ h => nomatch h)⟩)⟩)⟩)⟩)⟩)⟩)⟩)⟩)⟩)⟩)⟩)⟩)⟩)⟩)⟩)⟩)⟩)⟩)⟩)⟩)⟩)⟩)⟩)⟩)⟩)⟩)⟩)⟩)⟩)⟩)⟩)⟩)⟩)⟩)⟩)⟩)⟩)
theorem m_thI (hw : own_hw a0 Z) {h0 : Heap} {a r : Addr}  (hl : l.stackTraces = true) {u0 u1 : Value} (hT2 : own_Two Z u0 u1) (ga : n0 ≤ a) (Wa : own_New Z h0 a) :
    DoesK l Z n0 (Et Z "Cannot deploy " h0) ⟨"java/lang/Throwable", "<init>", "(Ljava/lang/String;)V"⟩ jdk_78_method_2_code 2 none { frames := 3, cells := 1, slots := 2752, locals := 42 } #[(.ref a), (.ref r)] h0 (fun v h vm => v = none ∧ Keep h0 h [a] ∧ Exa Z h a "com/example/inflow/inflow/model/DeploymentException" ∧ Fld Z h a "java/lang/Throwable" "detailMessage" "Ljava/lang/String;" (.ref r) ∧ Et Z "Cannot deploy " h vm) := by
  refine DoesK.start (plainFor_of_name pn_10) ?_
  intro p e s m below meth c T X Y hs0 Gs hTK
  replace X : Sd _ _ _ _ _ "java/lang/Throwable" "<init>" _ _ _ _ _ _ _ _ _ _ _ _ _ _ _ _ := X
  have hO : Ext Z.heap s.heap := by rw [hs0]; exact X.old.2
  refine Wp.cast (g' := mkF m 0 #[.val (.ref a), .val (.ref r)] []) (by first | (simp [entryFrame, mkF, argsToLocals, Value.category, maxLocals]; done) | rfl) ?_
  obtain ⟨Ea, Na, F1, F2, F3, F4⟩ := Wa
  obtain ⟨hu0, hu1, S1, S2⟩ := hT2
  refine w_aloadN X k78_2_0 rfl (rfl) ?_
  refine w_initO X k78_2_1 (wd_169 hw) (wd_19 hw) (wd_20 hw) rfl (by decide) (leR rfl) (fun T X => ?_)
  refine w_aloadN X k78_2_4 rfl (rfl) ?_
  refine w_aloadN X k78_2_5 rfl (rfl) ?_
  refine w_putF X k78_2_6 (host := "") (Or.inl (wd_170 hw)) Via.refl F1 Ea (Or.inl (wd_171 hw)) (wd_34 hw) (ty := (.object "java/lang/Throwable")) (by decide) rfl rfl ga (fun T h1 X W1 => ?_)
  have f1 := F1.same W1
  have K2 : Keep h0 h1 [a] := (Keep.refl h0 [a]).wr W1 (Or.inl (List.mem_of_getElem? (i := 0) rfl))
  refine w_aloadN X k78_2_9 rfl (rfl) ?_
  refine w_getS X k78_2_10 (host := "") (Or.inl (wd_172 hw)) Via.refl (S1.ext X.old.2) (fun T X => ?_)
  have f3 := (Ea.wr W1)
  have f4 := (F2.other W1 (Or.inr (slot_ne (Or.inl (wd_174 hw)) (Or.inl (wd_171 hw)) (by decide) (t := (.array (.object "java/lang/StackTraceElement"))) (t' := (.object "java/lang/Throwable")) (by decide) (by decide))))
  refine w_putF X k78_2_13 (host := "") (Or.inl (wd_173 hw)) Via.refl f4 f3 (Or.inl (wd_174 hw)) (wd_34 hw) (ty := (.array (.object "java/lang/StackTraceElement"))) (by decide) (narrow_isRef _ hu0) (own_fitR hu0 rfl) ga (fun T h2 X W2 => ?_)
  have f5 := f4.same W2
  have K6 : Keep h0 h2 [a] := K2.wr W2 (Or.inl (List.mem_of_getElem? (i := 0) rfl))
  refine w_aloadN X k78_2_16 rfl (rfl) ?_
  refine w_getS X k78_2_17 (host := "") (Or.inl (wd_175 hw)) Via.refl (S2.ext X.old.2) (fun T X => ?_)
  have f7 := (f3.wr W2)
  have f8 := ((F3.other W1 (Or.inr (slot_ne (Or.inl (wd_177 hw)) (Or.inl (wd_171 hw)) (by decide) (t := (.object "java/util/List")) (t' := (.object "java/lang/Throwable")) (by decide) (by decide)))).other W2 (Or.inr (slot_ne (Or.inl (wd_177 hw)) (Or.inl (wd_174 hw)) (by decide) (t := (.object "java/util/List")) (t' := (.array (.object "java/lang/StackTraceElement"))) (by decide) (by decide))))
  refine w_putF X k78_2_20 (host := "") (Or.inl (wd_176 hw)) Via.refl f8 f7 (Or.inl (wd_177 hw)) (wd_34 hw) (ty := (.object "java/util/List")) (by decide) (narrow_isRef _ hu1) (own_fitR hu1 rfl) ga (fun T h3 X W3 => ?_)
  have f9 := f8.same W3
  have K10 : Keep h0 h3 [a] := K6.wr W3 (Or.inl (List.mem_of_getElem? (i := 0) rfl))
  refine w_aloadN X k78_2_23 rfl (rfl) ?_
  have f11 := (f7.wr W3)
  have f12 := (f5.other W3 (Or.inr (slot_ne (Or.inl (wd_174 hw)) (Or.inl (wd_177 hw)) (by decide) (t := (.array (.object "java/lang/StackTraceElement"))) (t' := (.object "java/util/List")) (by decide) (by decide))))
  have f13 := (((F4.other W1 (Or.inr (slot_ne (Or.inl (wd_202 hw)) (Or.inl (wd_171 hw)) (by decide) (t := (.object "java/lang/Object")) (t' := (.object "java/lang/Throwable")) (by decide) (by decide)))).other W2 (Or.inr (slot_ne (Or.inl (wd_202 hw)) (Or.inl (wd_174 hw)) (by decide) (t := (.object "java/lang/Object")) (t' := (.array (.object "java/lang/StackTraceElement"))) (by decide) (by decide)))).other W3 (Or.inr (slot_ne (Or.inl (wd_202 hw)) (Or.inl (wd_177 hw)) (by decide) (t := (.object "java/lang/Object")) (t' := (.object "java/util/List")) (by decide) (by decide))))
  refine w_fill X hl (own_known hTK Y.1.alike) hO (Nat.zero_le _) (own_thrW hw) (wd_34 hw) k78_2_24 hu0 f11 (Unt.wr W3 (Unt.wr W2 (Unt.wr W1 Na))) f12 f13 (S1.ext X.old.2) ga (by intro x hx; simp only [List.nil_append, List.mem_append, List.mem_cons, List.not_mem_nil, or_false, false_or] at hx; rcases hx with (rfl | rfl) | rfl <;> rfl) rfl (by decide) (leR rfl) (by decide) (by decide) (fun T h4 L4 X Kc4 E4 ⟨v4, F4⟩ => ?_)
  rw [hs0] at Kc4
  refine w_pop X k78_2_27 rfl ?_
  refine w_aloadN X k78_2_28 rfl (rfl) ?_
  refine w_aloadN X k78_2_29 rfl (rfl) ?_
  refine w_putF X k78_2_30 (host := "") (Or.inl (wd_205 hw)) Via.refl F4 E4 (Or.inl (wd_201 hw)) (wd_34 hw) (ty := (.object "java/lang/String")) (by decide) rfl rfl ga (fun T h5 X W5 => ?_)
  have f14 := F4.same W5
  have K15 : Keep h0 h5 [a] := Kc4.wr W5 (Or.inl (List.mem_of_getElem? (i := 0) rfl))
  have f16 := (E4.wr W5)
  exact g_retV X Y k78_2_33 (fun vm' hW => ⟨rfl, K15, f16, f14, (Gs.keepC (by decide) X.hZ.alike K15 Ea (by decide) (wd_34 hw)).warm hW⟩) (by decide) (by decide)
theorem m_exI (hw : own_hw a0 Z) {h0 : Heap} {a r : Addr}  (hl : l.stackTraces = true) {u0 u1 : Value} (hT2 : own_Two Z u0 u1) (ga : n0 ≤ a) (Wa : own_New Z h0 a) :
    DoesK l Z n0 (Et Z "Cannot deploy " h0) ⟨"java/lang/Exception", "<init>", "(Ljava/lang/String;)V"⟩ jdk_59_method_2_code 2 none { frames := 4, cells := 1, slots := 2752, locals := 55 } #[(.ref a), (.ref r)] h0 (fun v h vm => v = none ∧ Keep h0 h [a] ∧ Exa Z h a "com/example/inflow/inflow/model/DeploymentException" ∧ Fld Z h a "java/lang/Throwable" "detailMessage" "Ljava/lang/String;" (.ref r) ∧ Et Z "Cannot deploy " h vm) := by
  refine DoesK.start (plainFor_of_name pn_11) ?_
  intro p e s m below meth c T X Y hs0 Gs hTK
  replace X : Sd _ _ _ _ _ "java/lang/Exception" "<init>" _ _ _ _ _ _ _ _ _ _ _ _ _ _ _ _ := X
  have hO : Ext Z.heap s.heap := by rw [hs0]; exact X.old.2
  refine Wp.cast (g' := mkF m 0 #[.val (.ref a), .val (.ref r)] []) (by first | (simp [entryFrame, mkF, argsToLocals, Value.category, maxLocals]; done) | rfl) ?_
  refine w_aloadN X k59_2_0 rfl (rfl) ?_
  refine w_aloadN X k59_2_1 rfl (rfl) ?_
  refine k_callI X Y (fun vm' hW => Gs.warm hW) (own_known hTK Y.1.alike) k59_2_2 rfl (wd_163 hw) (wd_164 hw) (wd_167 hw) (wd_168 hw) (by decide) (argsL := [(.ref r)]) (S := []) (m_thI hw hl hT2 ga Wa) pd_16 rfl rfl rfl (by decide) (leR rfl) (by decide) (by decide) (fun T h1 v1 L1 u kk X Y q1 => ?_)
  obtain ⟨rfl, q1⟩ := q1
  show Wp _ _ _ _ (T.setTop (mkF _ _ _ []))
  exact g_retV X Y k59_2_5 (fun vm' hW => ⟨rfl, q1.1, q1.2.1, q1.2.2.1, q1.2.2.2.warm hW⟩) (by decide) (by decide)
theorem m_rtI (hw : own_hw a0 Z) {h0 : Heap} {a r : Addr}  (hl : l.stackTraces = true) {u0 u1 : Value} (hT2 : own_Two Z u0 u1) (ga : n0 ≤ a) (Wa : own_New Z h0 a) :
    DoesK l Z n0 (Et Z "Cannot deploy " h0) ⟨"java/lang/RuntimeException", "<init>", "(Ljava/lang/String;)V"⟩ jdk_58_method_2_code 2 none { frames := 5, cells := 1, slots := 2752, locals := 68 } #[(.ref a), (.ref r)] h0 (fun v h vm => v = none ∧ Keep h0 h [a] ∧ Exa Z h a "com/example/inflow/inflow/model/DeploymentException" ∧ Fld Z h a "java/lang/Throwable" "detailMessage" "Ljava/lang/String;" (.ref r) ∧ Et Z "Cannot deploy " h vm) := by
  refine DoesK.start (plainFor_of_name pn_12) ?_
  intro p e s m below meth c T X Y hs0 Gs hTK
  replace X : Sd _ _ _ _ _ "java/lang/RuntimeException" "<init>" _ _ _ _ _ _ _ _ _ _ _ _ _ _ _ _ := X
  have hO : Ext Z.heap s.heap := by rw [hs0]; exact X.old.2
  refine Wp.cast (g' := mkF m 0 #[.val (.ref a), .val (.ref r)] []) (by first | (simp [entryFrame, mkF, argsToLocals, Value.category, maxLocals]; done) | rfl) ?_
  refine w_aloadN X k58_2_0 rfl (rfl) ?_
  refine w_aloadN X k58_2_1 rfl (rfl) ?_
  refine k_callI X Y (fun vm' hW => Gs.warm hW) (own_known hTK Y.1.alike) k58_2_2 rfl (wd_157 hw) (wd_158 hw) (wd_161 hw) (wd_162 hw) (by decide) (argsL := [(.ref r)]) (S := []) (m_exI hw hl hT2 ga Wa) pd_16 rfl rfl rfl (by decide) (leR rfl) (by decide) (by decide) (fun T h1 v1 L1 u kk X Y q1 => ?_)
  obtain ⟨rfl, q1⟩ := q1
  show Wp _ _ _ _ (T.setTop (mkF _ _ _ []))
  exact g_retV X Y k58_2_5 (fun vm' hW => ⟨rfl, q1.1, q1.2.1, q1.2.2.1, q1.2.2.2.warm hW⟩) (by decide) (by decide)
theorem m_deI (hw : own_hw a0 Z) {h0 : Heap} {a r : Addr}  (hl : l.stackTraces = true) {u0 u1 : Value} (hT2 : own_Two Z u0 u1) (ga : n0 ≤ a) (Wa : own_New Z h0 a) :
    DoesK l Z n0 (Et Z "Cannot deploy " h0) ⟨"com/example/inflow/inflow/model/DeploymentException", "<init>", "(Ljava/lang/String;)V"⟩ prog_8_method_3_code 2 none { frames := 6, cells := 1, slots := 2752, locals := 81 } #[(.ref a), (.ref r)] h0 (fun v h vm => v = none ∧ Keep h0 h [a] ∧ Exa Z h a "com/example/inflow/inflow/model/DeploymentException" ∧ Fld Z h a "java/lang/Throwable" "detailMessage" "Ljava/lang/String;" (.ref r) ∧ Et Z "Cannot deploy " h vm) := by
  refine DoesK.start (plainFor_of_name pn_9) ?_
  intro p e s m below meth c T X Y hs0 Gs hTK
  replace X : Sd _ _ _ _ _ "com/example/inflow/inflow/model/DeploymentException" "<init>" _ _ _ _ _ _ _ _ _ _ _ _ _ _ _ _ := X
  have hO : Ext Z.heap s.heap := by rw [hs0]; exact X.old.2
  refine Wp.cast (g' := mkF m 0 #[.val (.ref a), .val (.ref r)] []) (by first | (simp [entryFrame, mkF, argsToLocals, Value.category, maxLocals]; done) | rfl) ?_
  refine w_aloadN X q8_3_0 rfl (rfl) ?_
  refine w_aloadN X q8_3_1 rfl (rfl) ?_
  refine k_callI X Y (fun vm' hW => Gs.warm hW) (own_known hTK Y.1.alike) q8_3_2 rfl (wd_152 hw) (wd_153 hw) (wd_155 hw) (wd_156 hw) (by decide) (argsL := [(.ref r)]) (S := []) (m_rtI hw hl hT2 ga Wa) pd_16 rfl rfl rfl (by decide) (leR rfl) (by decide) (by decide) (fun T h1 v1 L1 u kk X Y q1 => ?_)
  obtain ⟨rfl, q1⟩ := q1
  show Wp _ _ _ _ (T.setTop (mkF _ _ _ []))
  exact g_retV X Y q8_3_5 (fun vm' hW => ⟨rfl, q1.1, q1.2.1, q1.2.2.1, q1.2.2.2.warm hW⟩) (by decide) (by decide)
def own_M (l : Launch) (Z : State) (n0 : Nat) (p1 t1 p2 t2 : Addr) (xs ys vs : List Value) : Prop := ∀ {h : Heap}, Lat Z h p1 t1 (0 : Int32) xs → Lat Z h p2 t2 (0 : Int32) ys → DoesG l Z n0 (own_G Z h) ⟨"com/example/inflow/inflow/model/DeploymentException", "message", "(Ljava/lang/String;Ljava/lang/String;)Ljava/lang/String;"⟩ prog_8_method_11_code 2 (some (.object "java/lang/String")) [] { frames := 6, cells := 9, slots := 152, locals := 113 } #[.ref p1, .ref p2] h (fun v h' vm => ∃ a t, v = some (.ref a) ∧ Lat Z h' a t (0 : Int32) vs ∧ Keep h h' [] ∧ Et Z "Cannot deploy " h' vm)
theorem m_fd (hw : own_hw a0 Z) {h0 : Heap} {zc : Int32} {fm : Value} {p1 p2 t1 t2 : Addr} {xs ys vs : List Value} (hS : own_S Z zc fm) (hl : l.stackTraces = true) {u0 u1 : Value} (hT2 : own_Two Z u0 u1) (T1 : Lat Z h0 p1 t1 (0 : Int32) xs) (T2 : Lat Z h0 p2 t2 (0 : Int32) ys) (Dm : own_M l Z n0 p1 t1 p2 t2 xs ys vs) :
    DoesK l Z n0 (own_G Z h0) ⟨"com/example/inflow/inflow/model/DeploymentException", "forDescriptor", "(Ljava/lang/String;Ljava/lang/String;)Lcom/example/inflow/inflow/model/DeploymentException;"⟩ prog_8_method_4_code 2 (some (.object "com/example/inflow/inflow/model/DeploymentException")) { frames := 7, cells := 11, slots := 2910, locals := 128 } #[(.ref p1), (.ref p2)] h0 (fun v h vm => ∃ e m t, v = some (.ref e) ∧ Exa Z h e "com/example/inflow/inflow/model/DeploymentException" ∧ Fld Z h e "java/lang/Throwable" "detailMessage" "Ljava/lang/String;" (.ref m) ∧ Lat Z h m t (0 : Int32) vs ∧ Keep h0 h [] ∧ Et Z "Cannot deploy " h vm) := by
  refine DoesK.start (plainFor_of_name pn_9) ?_
  obtain ⟨S_zc, hzc, S_fm, hfm⟩ := id hS
  intro p e s m below meth c T X Y hs0 Gs hTK
  replace X : Sd _ _ _ _ _ "com/example/inflow/inflow/model/DeploymentException" "forDescriptor" _ _ _ _ _ _ _ _ _ _ _ _ _ _ _ _ := X
  have hO : Ext Z.heap s.heap := by rw [hs0]; exact X.old.2
  refine Wp.cast (g' := mkF m 0 #[.val (.ref p1), .val (.ref p2)] []) (by first | (simp [entryFrame, mkF, argsToLocals, Value.category, maxLocals]; done) | rfl) ?_
  refine w_newU X q8_4_0 (wd_33 hw) (wd_34 hw) (wd_31 hw) (by decide) (by decide) (fun T h1 b1 g1 gn1 X E1 A1 D1 U1 => ?_)
  have sz_b1 : h0.size ≤ b1 := Nat.le_trans (Keep.refl h0 []).1 (Nat.le_of_eq g1.symm)
  have K1 : Keep h0 h1 [] := (Keep.refl h0 []).ext E1
  refine w_dup X q8_4_3 rfl ?_
  refine w_aloadN X q8_4_4 rfl (rfl) ?_
  refine w_aloadN X q8_4_5 rfl (rfl) ?_
  refine g_callS X Y (fun vm' hW => (Gs.ext E1).warm hW) q8_4_6 (wd_35 hw) (wd_36 hw) (wd_31 hw) (wd_37 hw) (by decide) (argsL := [(.ref p1), (.ref p2)]) (S := [(.ref b1), (.ref b1)]) (Dm (T1.ext E1) (T2.ext E1)) pd_30 rfl rfl rfl (by decide) (leR rfl) (by decide) (by decide) (fun T h2 v2 L2 u kk X Y q2 => ?_)
  obtain ⟨r2, t2, rfl, Tm2, Kc2, Me2⟩ := q2
  have K2 : Keep h0 h2 [] := K1.trans Kc2 (fun x hx => nomatch hx)
  show Wp _ _ _ _ (T.setTop (mkF _ _ _ [(.ref r2), (.ref b1), (.ref b1)]))
  have f3 := (A1.keep Kc2)
  have f4 := ((show Fld Z h1 b1 "java/lang/Throwable" "cause" "Ljava/lang/Throwable;" .null from D1 (Or.inl (wd_171 hw)) (ty := (.object "java/lang/Throwable")) (by decide)).keep Kc2 (List.not_mem_nil))
  have f5 := ((show Fld Z h1 b1 "java/lang/Throwable" "stackTrace" "[Ljava/lang/StackTraceElement;" .null from D1 (Or.inl (wd_174 hw)) (ty := (.array (.object "java/lang/StackTraceElement"))) (by decide)).keep Kc2 (List.not_mem_nil))
  have f6 := ((show Fld Z h1 b1 "java/lang/Throwable" "suppressedExceptions" "Ljava/util/List;" .null from D1 (Or.inl (wd_177 hw)) (ty := (.object "java/util/List")) (by decide)).keep Kc2 (List.not_mem_nil))
  have f7 := ((show Fld Z h1 b1 "java/lang/Throwable" "backtrace" "Ljava/lang/Object;" .null from D1 (Or.inl (wd_202 hw)) (ty := (.object "java/lang/Object")) (by decide)).keep Kc2 (List.not_mem_nil))
  refine k_callI X Y (fun vm' hW => Me2.warm hW) (own_known hTK Y.1.alike) q8_4_9 rfl (wd_149 hw) (wd_150 hw) (wd_31 hw) (wd_151 hw) (by decide) (argsL := [(.ref r2)]) (S := [(.ref b1)]) (m_deI hw hl hT2 gn1 ⟨f3, (Unt.keep Kc2 List.not_mem_nil U1), f4, f5, f6, f7⟩) pd_16 rfl rfl rfl (by decide) (leR rfl) (by decide) (by decide) (fun T h3 v3 L3 u kk X Y q3 => ?_)
  obtain ⟨rfl, Kc3, E3, F3, Me3⟩ := q3
  have K8 : Keep h0 h3 [] := K2.trans Kc3 (fun x hx => by cases List.mem_singleton.mp hx; exact (Or.inr sz_b1))
  show Wp _ _ _ _ (T.setTop (mkF _ _ _ [(.ref b1)]))
  exact g_retR X Y rfl (rfl) rfl q8_4_12 (fun vm' hW => ⟨_, _, _, rfl, E3, F3, (Tm2.keep Kc3 (by simp only [List.mem_cons, List.not_mem_nil, or_false]; exact own_neC Tm2.1 f3 (by decide)) (by simp only [List.mem_cons, List.not_mem_nil, or_false]; exact Ne.symm (own_ane f3 (wd_34 hw) Tm2.2.2.2))), K8, Me3.warm hW⟩) (by decide) (by decide)
theorem m_gm (hw : own_hw a0 Z) {h0 : Heap} {e0 r : Addr} (F : Fld Z h0 e0 "java/lang/Throwable" "detailMessage" "Ljava/lang/String;" (.ref r)) :
    Does l Z n0 ⟨"java/lang/Throwable", "getMessage", "()Ljava/lang/String;"⟩ jdk_78_method_6_code 1 (some (.object "java/lang/String")) [] { frames := 0, cells := 0, slots := 0, locals := 0 } #[(.ref e0)] h0 (fun v h => v = some (.ref r) ∧ h0 = h) := by
  refine Does.start (plainFor_of_name pn_10) ?_
  intro p e s m below meth c T X
  replace X : Sd _ _ _ _ _ "java/lang/Throwable" "getMessage" _ _ _ _ _ _ _ _ _ _ _ _ _ _ _ _ := X
  refine Wp.cast (g' := mkF m 0 #[.val (.ref e0)] []) (by first | (simp [entryFrame, mkF, argsToLocals, Value.category, maxLocals]; done) | rfl) ?_
  refine w_aloadN X k78_6_0 rfl (rfl) ?_
  refine w_getF X k78_6_1 (host := "") (Or.inl (wd_205 hw)) Via.refl F (fun T X => ?_)
  exact w_retR X rfl (rfl) rfl k78_6_4 ⟨rfl, rfl⟩ (by decide) (by decide)
def own_ch (x : Int32) : Int32 := (x &&& (255 : Int32)).toUInt32.toUInt16.toUInt32.toInt32
theorem own_chN (x : Int32) : nar .char (own_ch x) = own_ch x := own_nar_c _
def own_bl : List Value := [(.int 67), (.int 97), (.int 110), (.int 110), (.int 111), (.int 116), (.int 32), (.int 100), (.int 101), (.int 112), (.int 108), (.int 111), (.int 121), (.int 32)]
def own_exp (x0 i dl d r : Int32) : Int32 := if i < 14 then own_ch x0 else if i - 14 < dl then own_byt d (i - 14) else if i - 14 - dl = 0 then 58 else if i - 14 - dl = 1 then 32 else own_byt r (i - 14 - dl - 2)
def own_q (x : Int32) : Prop := x = 0 ∨ x = 1 ∨ x = 2 ∨ x = 3
def own_pl (x c0 c1 c2 : Int32) : List Value := if x = 0 then [] else if x = 1 then [.int c0.toInt8.toInt32] else if x = 2 then [.int c0.toInt8.toInt32, .int c1.toInt8.toInt32] else [.int c0.toInt8.toInt32, .int c1.toInt8.toInt32, .int c2.toInt8.toInt32]
def own_vs (dl rl d r : Int32) : List Value := own_bl ++ own_pl dl (own_byt d 0) (own_byt d 1) (own_byt d 2) ++ [.int 58, .int 32] ++ own_pl rl (own_byt r 0) (own_byt r 1) (own_byt r 2)
def own_Hm (ws : List Value) (n x0 i dl d r : Int32) : Prop := i < n → ∃ x, ws[i.toNatClampNeg]? = some (.int x) ∧ own_ch x = own_exp x0 i dl d r
theorem m_lcG (hw : own_hw a0 Z) {h0 : Heap} {zc : Int32} {fm : Value} {t : Addr} {ws : List Value} {i n x : Int32} (hS : own_S Z zc fm) (At : Ary Z h0 t .byte ws) (hn : ws.length.toInt32 = n) (hi : ¬ i < 0) (hl : i < n) (hx : ws[i.toNatClampNeg]? = some (.int x)) :
    Does l Z n0 ⟨"java/lang/StringLatin1", "charAt", "([BI)C"⟩ jdk_43_method_2_code 2 (some .char) [] { frames := 2, cells := 0, slots := 0, locals := 27 } #[(.ref t), (.int i)] h0 (fun v h => v = some (.int (own_ch x)) ∧ h0 = h) := by
  refine Does.start (plainFor_of_name pn_3) ?_
  obtain ⟨S_zc, hzc, S_fm, hfm⟩ := id hS
  intro p e s m below meth c T X
  replace X : Sd _ _ _ _ _ "java/lang/StringLatin1" "charAt" _ _ _ _ _ _ _ _ _ _ _ _ _ _ _ _ := X
  refine Wp.cast (g' := mkF m 0 #[.val (.ref t), .val (.int i)] []) (by first | (simp [entryFrame, mkF, argsToLocals, Value.category, maxLocals]; done) | rfl) ?_
  refine w_iloadN X k43_2_0 rfl ?_
  refine w_aloadN X k43_2_1 rfl (rfl) ?_
  refine w_arrlen X n k43_2_2 At hn ?_
  refine w_callS X k43_2_3 (wd_230 hw) (wd_231 hw) (wd_9 hw) (wd_232 hw) (by decide) (argsL := [(.int i), (.int n)]) (S := []) (m_sci hw hS hi hl) pd_26 rfl rfl rfl (by decide) (leR rfl) (by decide) (by decide) (fun T h1 v1 L1 X q1 => ?_)
  obtain ⟨rfl, rfl⟩ := q1
  show Wp _ _ _ _ (T.setTop (mkF _ _ _ []))
  refine w_aloadN X k43_2_6 rfl (rfl) ?_
  refine w_iloadN X k43_2_7 rfl ?_
  refine w_baload X k43_2_8 At hi hx ?_
  refine w_sipush X (255 : Int32) k43_2_9 rfl ?_
  refine w_iand X k43_2_12 ?_
  refine w_i2c X k43_2_13 ?_
  exact w_ret_char X ((x &&& (255 : Int32)).toUInt32.toUInt16.toUInt32.toInt32) (own_nar_c _) k43_2_14 ⟨rfl, rfl⟩ (by decide) (by decide)
theorem m_caG (hw : own_hw a0 Z) {h0 : Heap} {zc : Int32} {fm : Value} {a t : Addr} {ws : List Value} {i n x : Int32} (hS : own_S Z zc fm) (Ea : Exa Z h0 a "java/lang/String") (Ca : Fld Z h0 a "java/lang/String" "coder" "B" (.int 0)) (Va : Fld Z h0 a "java/lang/String" "value" "[B" (.ref t)) (At : Ary Z h0 t .byte ws) (hn : ws.length.toInt32 = n) (hi : ¬ i < 0) (hl : i < n) (hx : ws[i.toNatClampNeg]? = some (.int x)) :
    Does l Z n0 ⟨"java/lang/String", "charAt", "(I)C"⟩ jdk_42_method_56_code 2 (some .char) [] { frames := 3, cells := 0, slots := 0, locals := 40 } #[(.ref a), (.int i)] h0 (fun v h => v = some (.int (own_ch x)) ∧ h0 = h) := by
  refine Does.start (plainFor_of_name pn_0) ?_
  obtain ⟨S_zc, hzc, S_fm, hfm⟩ := id hS
  intro p e s m below meth c T X
  replace X : Sd _ _ _ _ _ "java/lang/String" "charAt" _ _ _ _ _ _ _ _ _ _ _ _ _ _ _ _ := X
  refine Wp.cast (g' := mkF m 0 #[.val (.ref a), .val (.int i)] []) (by first | (simp [entryFrame, mkF, argsToLocals, Value.category, maxLocals]; done) | rfl) ?_
  refine w_aloadN X k42_56_0 rfl (rfl) ?_
  refine w_callV X k42_56_1 (wd_221 hw) (wd_222 hw) (nfs X.hZ (wd_224 hw)) (wd_224 hw) (wd_223 hw) (wd_9 hw) (wd_225 hw) (by decide) Ea (argsL := []) (S := []) (m_isl hw hS Ca) pd_22 rfl rfl rfl (by decide) (leR rfl) (by decide) (by decide) (fun T h1 v1 L1 X q1 => ?_)
  obtain ⟨rfl, rfl⟩ := q1
  show Wp _ _ _ _ (T.setTop (mkF _ _ _ [(.int 1)]))
  refine w_ifeq X k42_56_4 (fun hc => absurd hc (by decide)) (fun _ => ?_)
  refine w_aloadN X k42_56_7 rfl (rfl) ?_
  refine w_getF X k42_56_8 (host := "") (Or.inl (wd_27 hw)) Via.refl Va (fun T X => ?_)
  refine w_iloadN X k42_56_11 rfl ?_
  refine w_callS X k42_56_12 (wd_226 hw) (wd_227 hw) (wd_228 hw) (wd_229 hw) (by decide) (argsL := [(.ref t), (.int i)]) (S := []) (m_lcG hw hS At hn hi hl hx) pd_31 rfl rfl rfl (by decide) (leR rfl) (by decide) (by decide) (fun T h2 v2 L2 X q2 => ?_)
  obtain ⟨rfl, rfl⟩ := q2
  show Wp _ _ _ _ (T.setTop (mkF _ _ _ [(.int (own_ch x))]))
  exact w_ret_char X (own_ch x) (own_chN _) k42_56_15 ⟨rfl, rfl⟩ (by decide) (by decide)
theorem m_exp (hw : own_hw a0 Z) {h0 : Heap} {zc : Int32} {fm : Value} {aL tL : Addr} {i dl d r x0 : Int32} (hS : own_S Z zc fm) (TL : Lat Z h0 aL tL (0 : Int32) own_bl) (hi : ¬ i < 0) (hp : i < (14 : Int32) → own_bl[i.toNatClampNeg]? = some (.int x0)) :
    DoesG l Z n0 (fun vm => Lit (Z.setVm vm) "com/example/inflow/inflow/model/DeploymentExceptionForDescriptorPinLaw" 52 aL) ⟨"com/example/inflow/inflow/model/DeploymentExceptionForDescriptorPinLaw", "expected", "(IIII)C"⟩ method_6_code 6 (some .char) [] { frames := 4, cells := 0, slots := 0, locals := 53 } #[(.int i), (.int dl), (.int d), (.int r)] h0 (fun v h vm => v = some (.int (own_exp x0 i dl d r)) ∧ h0 = h ∧ Lit (Z.setVm vm) "com/example/inflow/inflow/model/DeploymentExceptionForDescriptorPinLaw" 52 aL) := by
  refine DoesG.start (plainFor_of_name pn_1) ?_
  obtain ⟨S_zc, hzc, S_fm, hfm⟩ := id hS
  intro p e s m below meth c T X Y hs0 Gs
  replace X : Sd _ _ _ _ _ "com/example/inflow/inflow/model/DeploymentExceptionForDescriptorPinLaw" "expected" _ _ _ _ _ _ _ _ _ _ _ _ _ _ _ _ := X
  refine Wp.cast (g' := mkF m 0 #[.val (.int i), .val (.int dl), .val (.int d), .val (.int r), .unset, .unset] []) (by first | (simp [entryFrame, mkF, argsToLocals, Value.category, maxLocals]; done) | rfl) ?_
  have L0 : Lit (s.setVm s.vm) "com/example/inflow/inflow/model/DeploymentExceptionForDescriptorPinLaw" 52 aL := Gs
  refine v_ldcA X d6_0 (wd_241 hw) L0 ?_
  refine w_astore X #[.val (.int i), .val (.int dl), .val (.int d), .val (.int r), .val (.ref aL), .unset] d6_2 (rfl) rfl ?_
  refine w_iloadN X d6_4 rfl ?_
  refine w_bipush X (14 : Int32) d6_5 rfl ?_
  refine w_icmpge X d6_7 (fun (hc7 : ¬ i < (14 : Int32)) => ?_) (fun (hc7 : i < (14 : Int32)) => ?_)
  · refine w_iloadN X d6_17 rfl ?_
    refine w_bipush X (14 : Int32) d6_18 rfl ?_
    refine w_isub X d6_20 ?_
    refine w_istore X #[.val (.int i), .val (.int dl), .val (.int d), .val (.int r), .val (.ref aL), .val (.int (i - (14 : Int32)))] d6_21 rfl ?_
    refine w_iload X d6_23 rfl ?_
    refine w_iloadN X d6_25 rfl ?_
    refine w_icmpge X d6_26 (fun (hc26 : ¬ (i - (14 : Int32)) < dl) => ?_) (fun (hc26 : (i - (14 : Int32)) < dl) => ?_)
    · refine w_iload X d6_36 rfl ?_
      refine w_iloadN X d6_38 rfl ?_
      refine w_isub X d6_39 ?_
      refine w_istore X #[.val (.int i), .val (.int dl), .val (.int d), .val (.int r), .val (.ref aL), .val (.int ((i - (14 : Int32)) - dl))] d6_40 rfl ?_
      refine w_iload X d6_42 rfl ?_
      refine w_ifne X d6_44 (fun (hc44 : ¬ ((i - (14 : Int32)) - dl) = (0 : Int32)) => ?_) (fun (hc44 : ((i - (14 : Int32)) - dl) = (0 : Int32)) => ?_)
      · refine w_iload X d6_50 rfl ?_
        refine w_iconst X (1 : Int32) d6_52 rfl ?_
        refine w_icmpne X d6_53 (fun (hc53 : ¬ ((i - (14 : Int32)) - dl) = (1 : Int32)) => ?_) (fun (hc53 : ((i - (14 : Int32)) - dl) = (1 : Int32)) => ?_)
        · refine w_iloadN X d6_59 rfl ?_
          refine w_iload X d6_60 rfl ?_
          refine w_iconst X (2 : Int32) d6_62 rfl ?_
          refine w_isub X d6_63 ?_
          refine w_callS X d6_64 (wd_0 hw) (wd_1 hw) (wd_2 hw) (wd_3 hw) (by decide) (argsL := [(.int r), (.int (((i - (14 : Int32)) - dl) - (2 : Int32)))]) (S := []) (m_byt hw) pd_32 rfl rfl rfl (by decide) (leR rfl) (by decide) (by decide) (fun T h1 v1 L1 X q1 => ?_)
          obtain ⟨rfl, rfl⟩ := q1
          show Wp _ _ _ _ (T.setTop (mkF _ _ _ [(.int (own_byt r (((i - (14 : Int32)) - dl) - (2 : Int32))))]))
          exact g_ret_char X Y (own_byt r (((i - (14 : Int32)) - dl) - (2 : Int32))) (own_bytN _ _) d6_67 (fun vm' hW => ⟨by unfold own_exp; rw [if_neg hc7, if_neg hc26, if_neg hc44, if_neg hc53], rfl, Lit.stays (s := s) (vm0 := _) L0 hW.wide⟩) (by decide) (by decide)
        · refine w_bipush X (32 : Int32) d6_56 rfl ?_
          exact g_ret_char X Y (32 : Int32) (by decide) d6_58 (fun vm' hW => ⟨by unfold own_exp; rw [if_neg hc7, if_neg hc26, if_neg hc44, if_pos hc53], rfl, Lit.stays (s := s) (vm0 := _) L0 hW.wide⟩) (by decide) (by decide)
      · refine w_bipush X (58 : Int32) d6_47 rfl ?_
        exact g_ret_char X Y (58 : Int32) (by decide) d6_49 (fun vm' hW => ⟨by unfold own_exp; rw [if_neg hc7, if_neg hc26, if_pos hc44], rfl, Lit.stays (s := s) (vm0 := _) L0 hW.wide⟩) (by decide) (by decide)
    · refine w_iloadN X d6_29 rfl ?_
      refine w_iload X d6_30 rfl ?_
      refine w_callS X d6_32 (wd_0 hw) (wd_1 hw) (wd_2 hw) (wd_3 hw) (by decide) (argsL := [(.int d), (.int (i - (14 : Int32)))]) (S := []) (m_byt hw) pd_32 rfl rfl rfl (by decide) (leR rfl) (by decide) (by decide) (fun T h2 v2 L2 X q2 => ?_)
      obtain ⟨rfl, rfl⟩ := q2
      show Wp _ _ _ _ (T.setTop (mkF _ _ _ [(.int (own_byt d (i - (14 : Int32))))]))
      exact g_ret_char X Y (own_byt d (i - (14 : Int32))) (own_bytN _ _) d6_35 (fun vm' hW => ⟨by unfold own_exp; rw [if_neg hc7, if_pos hc26], rfl, Lit.stays (s := s) (vm0 := _) L0 hW.wide⟩) (by decide) (by decide)
  · refine w_aload X d6_10 rfl (rfl) ?_
    refine w_iloadN X d6_12 rfl ?_
    refine w_callV X d6_13 (wd_216 hw) (wd_217 hw) (nfs X.hZ (wd_219 hw)) (wd_219 hw) (wd_218 hw) (wd_9 hw) (wd_220 hw) (by decide) TL.1 (argsL := [(.int i)]) (S := []) (m_caG hw hS TL.1 TL.2.1 TL.2.2.1 TL.2.2.2 (n := (14 : Int32)) rfl hi hc7 (hp hc7)) pd_33 rfl rfl rfl (by decide) (leR rfl) (by decide) (by decide) (fun T h3 v3 L3 X q3 => ?_)
    obtain ⟨rfl, rfl⟩ := q3
    show Wp _ _ _ _ (T.setTop (mkF _ _ _ [(.int (own_ch x0))]))
    exact g_ret_char X Y (own_ch x0) (own_chN _) d6_16 (fun vm' hW => ⟨by unfold own_exp; rw [if_pos hc7], rfl, Lit.stays (s := s) (vm0 := _) L0 hW.wide⟩) (by decide) (by decide)
theorem m_at (hw : own_hw a0 Z) {h0 : Heap} {zc : Int32} {fm : Value} {a t aL tL : Addr} {ws : List Value} {n i dl d r x0 : Int32} (hS : own_S Z zc fm) (Ta : Lat Z h0 a t (0 : Int32) ws) (hn : ws.length.toInt32 = n) (TL : Lat Z h0 aL tL (0 : Int32) own_bl) (hi : ¬ i < 0) (hp : i < (14 : Int32) → own_bl[i.toNatClampNeg]? = some (.int x0)) (hm : own_Hm ws n x0 i dl d r) :
    DoesG l Z n0 (fun vm => Lit (Z.setVm vm) "com/example/inflow/inflow/model/DeploymentExceptionForDescriptorPinLaw" 52 aL) ⟨"com/example/inflow/inflow/model/DeploymentExceptionForDescriptorPinLaw", "at", "(Ljava/lang/String;IIII)Z"⟩ method_5_code 5 (some .boolean) [] { frames := 5, cells := 0, slots := 0, locals := 71 } #[(.ref a), (.int i), (.int dl), (.int d), (.int r)] h0 (fun v h vm => v = some (.int 1) ∧ h0 = h ∧ Lit (Z.setVm vm) "com/example/inflow/inflow/model/DeploymentExceptionForDescriptorPinLaw" 52 aL) := by
  refine DoesG.start (plainFor_of_name pn_1) ?_
  obtain ⟨S_zc, hzc, S_fm, hfm⟩ := id hS
  intro p e s m below meth c T X Y hs0 Gs
  replace X : Sd _ _ _ _ _ "com/example/inflow/inflow/model/DeploymentExceptionForDescriptorPinLaw" "at" _ _ _ _ _ _ _ _ _ _ _ _ _ _ _ _ := X
  refine Wp.cast (g' := mkF m 0 #[.val (.ref a), .val (.int i), .val (.int dl), .val (.int d), .val (.int r)] []) (by first | (simp [entryFrame, mkF, argsToLocals, Value.category, maxLocals]; done) | rfl) ?_
  have L0 : Lit (s.setVm s.vm) "com/example/inflow/inflow/model/DeploymentExceptionForDescriptorPinLaw" 52 aL := Gs
  refine w_iloadN X d5_0 rfl ?_
  refine w_aloadN X d5_1 rfl (rfl) ?_
  refine w_callV X d5_2 (wd_212 hw) (wd_68 hw) (nfs X.hZ (wd_70 hw)) (wd_70 hw) (wd_69 hw) (wd_9 hw) (wd_71 hw) (by decide) Ta.1 (argsL := []) (S := [(.int i)]) (m_lnG hw hS Ta.1 Ta.2.1 Ta.2.2.1 Ta.2.2.2 hn) pd_18 rfl rfl rfl (by decide) (leR rfl) (by decide) (by decide) (fun T h1 v1 L1 X q1 => ?_)
  obtain ⟨rfl, rfl⟩ := q1
  show Wp _ _ _ _ (T.setTop (mkF _ _ _ [(.int n), (.int i)]))
  refine w_icmplt X d5_5 (fun (hc5 : i < n) => ?_) (fun (hc5 : ¬ i < n) => ?_)
  · refine w_aloadN X d5_10 rfl (rfl) ?_
    refine w_iloadN X d5_11 rfl ?_
    obtain ⟨x, hx, hE⟩ := hm hc5
    refine w_callV X d5_12 (wd_216 hw) (wd_217 hw) (nfs X.hZ (wd_219 hw)) (wd_219 hw) (wd_218 hw) (wd_9 hw) (wd_220 hw) (by decide) Ta.1 (argsL := [(.int i)]) (S := []) (m_caG hw hS Ta.1 Ta.2.1 Ta.2.2.1 Ta.2.2.2 hn hi hc5 hx) pd_33 rfl rfl rfl (by decide) (leR rfl) (by decide) (by decide) (fun T h2 v2 L2 X q2 => ?_)
    obtain ⟨rfl, rfl⟩ := q2
    show Wp _ _ _ _ (T.setTop (mkF _ _ _ [(.int (own_ch x))]))
    refine w_iloadN X d5_15 rfl ?_
    refine w_iloadN X d5_16 rfl ?_
    refine w_iloadN X d5_17 rfl ?_
    refine w_iload X d5_18 rfl ?_
    refine g_callS X Y (fun vm' hW => Lit.stays (s := s) (vm0 := _) L0 hW.wide) d5_20 (wd_238 hw) (wd_239 hw) (wd_2 hw) (wd_240 hw) (by decide) (argsL := [(.int i), (.int dl), (.int d), (.int r)]) (S := [(.int (own_ch x))]) (m_exp hw hS TL hi hp) pd_34 rfl rfl rfl (by decide) (leR rfl) (by decide) (by decide) (fun T h3 v3 L3 u kk X Y q3 => ?_)
    obtain ⟨rfl, rfl, Lt3⟩ := q3
    show Wp _ _ _ _ (T.setTop (mkF _ _ _ [(.int (own_exp x0 i dl d r)), (.int (own_ch x))]))
    refine w_icmpne X d5_23 (fun hc => absurd hE hc) (fun _ => ?_)
    refine w_iconst X (1 : Int32) d5_26 rfl ?_
    refine w_goto X d5_27 ?_
    exact g_ret_boolean X Y (1 : Int32) (by decide) d5_31 (fun vm' hW => ⟨rfl, rfl, Lit.stays (s := s) (vm0 := _) Lt3 hW.wide⟩) (by decide) (by decide)
  · refine w_iconst X (1 : Int32) d5_8 rfl ?_
    exact g_ret_boolean X Y (1 : Int32) (by decide) d5_9 (fun vm' hW => ⟨rfl, rfl, Lit.stays (s := s) (vm0 := _) L0 hW.wide⟩) (by decide) (by decide)
theorem m_exp0 (hw : own_hw a0 Z) {h0 : Heap} {zc : Int32} {fm : Value} {dl d r : Int32} (hS : own_S Z zc fm) (hheld : ∀ p ∈ consts_1, Jvm.Lit.constHeld Z p.1 p.2) (hcw : Jvm.Lit.compactW.before a0 Z = true) :
    DoesG l Z n0 (Et Z "Cannot deploy " h0) ⟨"com/example/inflow/inflow/model/DeploymentExceptionForDescriptorPinLaw", "expected", "(IIII)C"⟩ method_6_code 6 (some .char) [] { frames := 4, cells := 2, slots := 60, locals := 53 } #[(.int 0), (.int dl), (.int d), (.int r)] h0 (fun v h vm => v = some (.int 67) ∧ ∃ aL tL, Lit (Z.setVm vm) "com/example/inflow/inflow/model/DeploymentExceptionForDescriptorPinLaw" 52 aL ∧ Lat Z h aL tL (0 : Int32) own_bl ∧ Keep h0 h []) := by
  refine DoesG.start (plainFor_of_name pn_1) ?_
  obtain ⟨S_zc, hzc, S_fm, hfm⟩ := id hS
  intro p e s m below meth c T X Y hs0 Gs
  replace X : Sd _ _ _ _ _ "com/example/inflow/inflow/model/DeploymentExceptionForDescriptorPinLaw" "expected" _ _ _ _ _ _ _ _ _ _ _ _ _ _ _ _ := X
  refine Wp.cast (g' := mkF m 0 #[.val (.int 0), .val (.int dl), .val (.int d), .val (.int r), .unset, .unset] []) (by first | (simp [entryFrame, mkF, argsToLocals, Value.category, maxLocals]; done) | rfl) ?_
  refine v_ldcX X Y d6_0 (wd_241 hw) (own_wS hw) (by rw [hs0]; exact fun b c r => r) (by rw [hs0]; exact fun b c r => (X.old.2.2 b c r)) (by rw [hs0]; exact Gs) Gs (hheld _ (List.mem_of_getElem? (i := 2) rfl)) hcw own_bl (by decide) 56 (by decide) (by decide) (by decide) (by decide) (fun T h1 u kk a1 b1 X Y Ex1 E1 C1 V1 B1 M1 O1 L1 N1 => ?_)
  have K1 : Keep h0 h1 [] := (Keep.refl h0 []).ext Ex1
  refine w_astore X #[.val (.int 0), .val (.int dl), .val (.int d), .val (.int r), .val (.ref a1), .unset] d6_2 (rfl) rfl ?_
  refine w_iloadN X d6_4 rfl ?_
  refine w_bipush X (14 : Int32) d6_5 rfl ?_
  refine w_icmpge X d6_7 (fun hc => absurd (by decide) hc) (fun _ => ?_)
  refine w_aload X d6_10 rfl (rfl) ?_
  refine w_iloadN X d6_12 rfl ?_
  refine w_callV X d6_13 (wd_216 hw) (wd_217 hw) (nfs X.hZ (wd_219 hw)) (wd_219 hw) (wd_218 hw) (wd_9 hw) (wd_220 hw) (by decide) E1 (argsL := [(.int 0)]) (S := []) (m_caG hw hS E1 C1 V1 B1 (n := (14 : Int32)) (x := (67 : Int32)) rfl (by decide) (by decide) rfl) pd_33 rfl rfl rfl (by decide) (leR rfl) (by decide) (by decide) (fun T h2 v2 L2 X q2 => ?_)
  obtain ⟨rfl, rfl⟩ := q2
  show Wp _ _ _ _ (T.setTop (mkF _ _ _ [(.int (own_ch (67 : Int32)))]))
  exact g_ret_char X Y (own_ch (67 : Int32)) (own_chN _) d6_16 (fun vm' hW => ⟨rfl, _, _, Lit.stays (s := s) (vm0 := _) L1 hW.wide, ⟨E1, C1, V1, B1⟩, K1⟩) (by decide) (by decide)
theorem m_at0 (hw : own_hw a0 Z) {h0 : Heap} {zc : Int32} {fm : Value} {a t : Addr} {ws : List Value} {n dl d r : Int32} (hS : own_S Z zc fm) (hheld : ∀ p ∈ consts_1, Jvm.Lit.constHeld Z p.1 p.2) (hcw : Jvm.Lit.compactW.before a0 Z = true) (Ta : Lat Z h0 a t (0 : Int32) ws) (hn : ws.length.toInt32 = n) (h0n : (0 : Int32) < n) (hx : ws[(0 : Int32).toNatClampNeg]? = some (.int 67)) :
    DoesG l Z n0 (Et Z "Cannot deploy " h0) ⟨"com/example/inflow/inflow/model/DeploymentExceptionForDescriptorPinLaw", "at", "(Ljava/lang/String;IIII)Z"⟩ method_5_code 5 (some .boolean) [] { frames := 5, cells := 2, slots := 60, locals := 71 } #[(.ref a), (.int 0), (.int dl), (.int d), (.int r)] h0 (fun v h vm => v = some (.int 1) ∧ ∃ aL tL, Lit (Z.setVm vm) "com/example/inflow/inflow/model/DeploymentExceptionForDescriptorPinLaw" 52 aL ∧ Lat Z h aL tL (0 : Int32) own_bl ∧ Keep h0 h []) := by
  refine DoesG.start (plainFor_of_name pn_1) ?_
  obtain ⟨S_zc, hzc, S_fm, hfm⟩ := id hS
  intro p e s m below meth c T X Y hs0 Gs
  replace X : Sd _ _ _ _ _ "com/example/inflow/inflow/model/DeploymentExceptionForDescriptorPinLaw" "at" _ _ _ _ _ _ _ _ _ _ _ _ _ _ _ _ := X
  refine Wp.cast (g' := mkF m 0 #[.val (.ref a), .val (.int 0), .val (.int dl), .val (.int d), .val (.int r)] []) (by first | (simp [entryFrame, mkF, argsToLocals, Value.category, maxLocals]; done) | rfl) ?_
  refine w_iloadN X d5_0 rfl ?_
  refine w_aloadN X d5_1 rfl (rfl) ?_
  refine w_callV X d5_2 (wd_212 hw) (wd_68 hw) (nfs X.hZ (wd_70 hw)) (wd_70 hw) (wd_69 hw) (wd_9 hw) (wd_71 hw) (by decide) Ta.1 (argsL := []) (S := [(.int 0)]) (m_lnG hw hS Ta.1 Ta.2.1 Ta.2.2.1 Ta.2.2.2 hn) pd_18 rfl rfl rfl (by decide) (leR rfl) (by decide) (by decide) (fun T h1 v1 L1 X q1 => ?_)
  obtain ⟨rfl, rfl⟩ := q1
  show Wp _ _ _ _ (T.setTop (mkF _ _ _ [(.int n), (.int 0)]))
  refine w_icmplt X d5_5 (fun _ => ?_) (fun hc => absurd h0n hc)
  refine w_aloadN X d5_10 rfl (rfl) ?_
  refine w_iloadN X d5_11 rfl ?_
  refine w_callV X d5_12 (wd_216 hw) (wd_217 hw) (nfs X.hZ (wd_219 hw)) (wd_219 hw) (wd_218 hw) (wd_9 hw) (wd_220 hw) (by decide) Ta.1 (argsL := [(.int 0)]) (S := []) (m_caG hw hS Ta.1 Ta.2.1 Ta.2.2.1 Ta.2.2.2 hn (by decide) h0n (x := (67 : Int32)) hx) pd_33 rfl rfl rfl (by decide) (leR rfl) (by decide) (by decide) (fun T h2 v2 L2 X q2 => ?_)
  obtain ⟨rfl, rfl⟩ := q2
  show Wp _ _ _ _ (T.setTop (mkF _ _ _ [(.int (own_ch (67 : Int32)))]))
  refine w_iloadN X d5_15 rfl ?_
  refine w_iloadN X d5_16 rfl ?_
  refine w_iloadN X d5_17 rfl ?_
  refine w_iload X d5_18 rfl ?_
  refine g_callS X Y (fun vm' hW => Gs.warm hW) d5_20 (wd_238 hw) (wd_239 hw) (wd_2 hw) (wd_240 hw) (by decide) (argsL := [(.int 0), (.int dl), (.int d), (.int r)]) (S := [(.int (own_ch (67 : Int32)))]) (m_exp0 hw hS hheld hcw) pd_34 rfl rfl rfl (by decide) (leR rfl) (by decide) (by decide) (fun T h3 v3 L3 u kk X Y q3 => ?_)
  obtain ⟨rfl, q3⟩ := q3
  show Wp _ _ _ _ (T.setTop (mkF _ _ _ [(.int 67), (.int (own_ch (67 : Int32)))]))
  refine w_icmpne X d5_23 (fun hc => absurd (by decide) hc) (fun _ => ?_)
  refine w_iconst X (1 : Int32) d5_26 rfl ?_
  refine w_goto X d5_27 ?_
  exact g_ret_boolean X Y (1 : Int32) (by decide) d5_31 (fun vm' hW => ⟨rfl, (let ⟨x, y, z1, z2⟩ := q3; ⟨x, y, Lit.stays (s := s) (vm0 := _) z1 hW.wide, z2⟩)⟩) (by decide) (by decide)
theorem m_pickA (hw : own_hw a0 Z) {h0 : Heap} {zc : Int32} {fm : Value} {x c0 c1 c2 : Int32} (hS : own_S Z zc fm) (hheld : ∀ p ∈ consts_1, Jvm.Lit.constHeld Z p.1 p.2) (hcw : Jvm.Lit.compactW.before a0 Z = true) (hx : own_q x) (l0 : ¬ (255 : Int32) < c0) (nc0 : nar .char c0 = c0) (l1 : ¬ (255 : Int32) < c1) (nc1 : nar .char c1 = c1) (l2 : ¬ (255 : Int32) < c2) (nc2 : nar .char c2 = c2) :
    DoesG l Z n0 (own_G Z h0) ⟨"com/example/inflow/inflow/model/DeploymentExceptionForDescriptorPinLaw", "pick", "(CCCI)Ljava/lang/String;"⟩ method_4_code 4 (some (.object "java/lang/String")) [] { frames := 4, cells := 4, slots := 10, locals := 66 } #[(.int c0), (.int c1), (.int c2), (.int x)] h0 (fun v h vm => ∃ a t, v = some (.ref a) ∧ Lat Z h a t (0 : Int32) (own_pl x c0 c1 c2) ∧ Keep h0 h [] ∧ own_G Z h vm) := by
  rcases hx with rfl | rfl | rfl | rfl
  · exact m_pick_0 hw hS hheld hcw rfl l0 nc0 l1 nc1 l2 nc2
  · exact m_pick_1 hw hS hheld hcw rfl l0 nc0 l1 nc1 l2 nc2
  · exact m_pick_2 hw hS hheld hcw rfl l0 nc0 l1 nc1 l2 nc2
  · exact m_pick_3 hw hS hheld hcw rfl l0 nc0 l1 nc1 l2 nc2
theorem own_Dm {l : Launch} {Z : State} {a0 : Array Value} {n0 : Nat} (hw : own_hw a0 Z) {zc : Int32} {fm : Value} (hS : own_S Z zc fm) (hheld : ∀ p ∈ consts_1, Jvm.Lit.constHeld Z p.1 p.2) (hcw : Jvm.Lit.compactW.before a0 Z = true) {p1 t1 p2 t2 : Addr} {dl rl d r : Int32} (h1 : own_q dl) (h2 : own_q rl) : own_M l Z n0 p1 t1 p2 t2 (own_pl dl (own_byt d 0) (own_byt d 1) (own_byt d 2)) (own_pl rl (own_byt r 0) (own_byt r 1) (own_byt r 2)) (own_vs dl rl d r) := by
  rcases h1 with rfl | rfl | rfl | rfl <;> rcases h2 with rfl | rfl | rfl | rfl
  · exact fun T1 T2 => m_msg_0_0 hw hS hheld hcw T1 T2
  · exact fun T1 T2 => m_msg_0_1 hw hS hheld hcw T1 T2
  · exact fun T1 T2 => m_msg_0_2 hw hS hheld hcw T1 T2
  · exact fun T1 T2 => m_msg_0_3 hw hS hheld hcw T1 T2
  · exact fun T1 T2 => m_msg_1_0 hw hS hheld hcw T1 T2
  · exact fun T1 T2 => m_msg_1_1 hw hS hheld hcw T1 T2
  · exact fun T1 T2 => m_msg_1_2 hw hS hheld hcw T1 T2
  · exact fun T1 T2 => m_msg_1_3 hw hS hheld hcw T1 T2
  · exact fun T1 T2 => m_msg_2_0 hw hS hheld hcw T1 T2
  · exact fun T1 T2 => m_msg_2_1 hw hS hheld hcw T1 T2
  · exact fun T1 T2 => m_msg_2_2 hw hS hheld hcw T1 T2
  · exact fun T1 T2 => m_msg_2_3 hw hS hheld hcw T1 T2
  · exact fun T1 T2 => m_msg_3_0 hw hS hheld hcw T1 T2
  · exact fun T1 T2 => m_msg_3_1 hw hS hheld hcw T1 T2
  · exact fun T1 T2 => m_msg_3_2 hw hS hheld hcw T1 T2
  · exact fun T1 T2 => m_msg_3_3 hw hS hheld hcw T1 T2
theorem own_qA (y : Int32) : own_q (y &&& (3 : Int32)) := by
  have h := Jvm.Kit.i32_mask y 3 (k := 2) (by decide) (by decide)
  have q : (y &&& (3 : Int32)).toInt = 0 ∨ (y &&& (3 : Int32)).toInt = 1 ∨ (y &&& (3 : Int32)).toInt = 2 ∨ (y &&& (3 : Int32)).toInt = 3 := by omega
  exact q.imp (fun r => Int32.toInt_inj.mp r) (Or.imp (fun r => Int32.toInt_inj.mp r) (Or.imp (fun r => Int32.toInt_inj.mp r) fun r => Int32.toInt_inj.mp r))
theorem own_len {dl rl d r : Int32} (h1 : own_q dl) (h2 : own_q rl) : (own_vs dl rl d r).length.toInt32 = (16 : Int32) + dl + rl := by
  rcases h1 with rfl | rfl | rfl | rfl <;> rcases h2 with rfl | rfl | rfl | rfl <;> rfl
theorem own_0n {dl rl : Int32} (h1 : own_q dl) (h2 : own_q rl) : (0 : Int32) < (16 : Int32) + dl + rl := by
  rcases h1 with rfl | rfl | rfl | rfl <;> rcases h2 with rfl | rfl | rfl | rfl <;> decide
theorem own_rt (x y : Int32) : own_ch ((own_byt x y).toInt8.toInt32) = own_byt x y := own_lat (own_bytN x y) (own_bytL x y)
theorem own_eP {x0 i dl d r : Int32} (h : i < 14) : own_exp x0 i dl d r = own_ch x0 := if_pos h
theorem own_eD {x0 i dl d r : Int32} (k : Int32) (h : ¬ i < 14) (h1 : i - 14 < dl) (hk : i - 14 = k) : own_ch ((own_byt d k).toInt8.toInt32) = own_exp x0 i dl d r := by
  rw [own_rt]; subst hk; exact ((if_neg h).trans (if_pos h1)).symm
theorem own_eC {x0 i dl d r : Int32} (h : ¬ i < 14) (h1 : ¬ i - 14 < dl) (h2 : i - 14 - dl = 0) : own_ch 58 = own_exp x0 i dl d r := ((if_neg h).trans ((if_neg h1).trans (if_pos h2))).symm
theorem own_eS {x0 i dl d r : Int32} (h : ¬ i < 14) (h1 : ¬ i - 14 < dl) (h2 : ¬ i - 14 - dl = 0) (h3 : i - 14 - dl = 1) : own_ch 32 = own_exp x0 i dl d r := ((if_neg h).trans ((if_neg h1).trans ((if_neg h2).trans (if_pos h3)))).symm
theorem own_eR {x0 i dl d r : Int32} (k : Int32) (h : ¬ i < 14) (h1 : ¬ i - 14 < dl) (h2 : ¬ i - 14 - dl = 0) (h3 : ¬ i - 14 - dl = 1) (hk : i - 14 - dl - 2 = k) : own_ch ((own_byt r k).toInt8.toInt32) = own_exp x0 i dl d r := by
  rw [own_rt]; subst hk; exact ((if_neg h).trans ((if_neg h1).trans ((if_neg h2).trans (if_neg h3)))).symm
theorem own_H_1 {dl rl d r : Int32} (h1 : own_q dl) (h2 : own_q rl) : own_Hm (own_vs dl rl d r) ((16 : Int32) + dl + rl) (97 : Int32) (1 : Int32) dl d r := by
  rcases h1 with rfl | rfl | rfl | rfl <;> rcases h2 with rfl | rfl | rfl | rfl <;> exact fun _ => ⟨(97 : Int32), rfl, (own_eP (by decide)).symm⟩
theorem own_H_2 {dl rl d r : Int32} (h1 : own_q dl) (h2 : own_q rl) : own_Hm (own_vs dl rl d r) ((16 : Int32) + dl + rl) (110 : Int32) (2 : Int32) dl d r := by
  rcases h1 with rfl | rfl | rfl | rfl <;> rcases h2 with rfl | rfl | rfl | rfl <;> exact fun _ => ⟨(110 : Int32), rfl, (own_eP (by decide)).symm⟩
theorem own_H_3 {dl rl d r : Int32} (h1 : own_q dl) (h2 : own_q rl) : own_Hm (own_vs dl rl d r) ((16 : Int32) + dl + rl) (110 : Int32) (3 : Int32) dl d r := by
  rcases h1 with rfl | rfl | rfl | rfl <;> rcases h2 with rfl | rfl | rfl | rfl <;> exact fun _ => ⟨(110 : Int32), rfl, (own_eP (by decide)).symm⟩
theorem own_H_4 {dl rl d r : Int32} (h1 : own_q dl) (h2 : own_q rl) : own_Hm (own_vs dl rl d r) ((16 : Int32) + dl + rl) (111 : Int32) (4 : Int32) dl d r := by
  rcases h1 with rfl | rfl | rfl | rfl <;> rcases h2 with rfl | rfl | rfl | rfl <;> exact fun _ => ⟨(111 : Int32), rfl, (own_eP (by decide)).symm⟩
theorem own_H_5 {dl rl d r : Int32} (h1 : own_q dl) (h2 : own_q rl) : own_Hm (own_vs dl rl d r) ((16 : Int32) + dl + rl) (116 : Int32) (5 : Int32) dl d r := by
  rcases h1 with rfl | rfl | rfl | rfl <;> rcases h2 with rfl | rfl | rfl | rfl <;> exact fun _ => ⟨(116 : Int32), rfl, (own_eP (by decide)).symm⟩
theorem own_H_6 {dl rl d r : Int32} (h1 : own_q dl) (h2 : own_q rl) : own_Hm (own_vs dl rl d r) ((16 : Int32) + dl + rl) (32 : Int32) (6 : Int32) dl d r := by
  rcases h1 with rfl | rfl | rfl | rfl <;> rcases h2 with rfl | rfl | rfl | rfl <;> exact fun _ => ⟨(32 : Int32), rfl, (own_eP (by decide)).symm⟩
theorem own_H_7 {dl rl d r : Int32} (h1 : own_q dl) (h2 : own_q rl) : own_Hm (own_vs dl rl d r) ((16 : Int32) + dl + rl) (100 : Int32) (7 : Int32) dl d r := by
  rcases h1 with rfl | rfl | rfl | rfl <;> rcases h2 with rfl | rfl | rfl | rfl <;> exact fun _ => ⟨(100 : Int32), rfl, (own_eP (by decide)).symm⟩
theorem own_H_8 {dl rl d r : Int32} (h1 : own_q dl) (h2 : own_q rl) : own_Hm (own_vs dl rl d r) ((16 : Int32) + dl + rl) (101 : Int32) (8 : Int32) dl d r := by
  rcases h1 with rfl | rfl | rfl | rfl <;> rcases h2 with rfl | rfl | rfl | rfl <;> exact fun _ => ⟨(101 : Int32), rfl, (own_eP (by decide)).symm⟩
theorem own_H_9 {dl rl d r : Int32} (h1 : own_q dl) (h2 : own_q rl) : own_Hm (own_vs dl rl d r) ((16 : Int32) + dl + rl) (112 : Int32) (9 : Int32) dl d r := by
  rcases h1 with rfl | rfl | rfl | rfl <;> rcases h2 with rfl | rfl | rfl | rfl <;> exact fun _ => ⟨(112 : Int32), rfl, (own_eP (by decide)).symm⟩
theorem own_H_10 {dl rl d r : Int32} (h1 : own_q dl) (h2 : own_q rl) : own_Hm (own_vs dl rl d r) ((16 : Int32) + dl + rl) (108 : Int32) (10 : Int32) dl d r := by
  rcases h1 with rfl | rfl | rfl | rfl <;> rcases h2 with rfl | rfl | rfl | rfl <;> exact fun _ => ⟨(108 : Int32), rfl, (own_eP (by decide)).symm⟩
theorem own_H_11 {dl rl d r : Int32} (h1 : own_q dl) (h2 : own_q rl) : own_Hm (own_vs dl rl d r) ((16 : Int32) + dl + rl) (111 : Int32) (11 : Int32) dl d r := by
  rcases h1 with rfl | rfl | rfl | rfl <;> rcases h2 with rfl | rfl | rfl | rfl <;> exact fun _ => ⟨(111 : Int32), rfl, (own_eP (by decide)).symm⟩
theorem own_H_12 {dl rl d r : Int32} (h1 : own_q dl) (h2 : own_q rl) : own_Hm (own_vs dl rl d r) ((16 : Int32) + dl + rl) (121 : Int32) (12 : Int32) dl d r := by
  rcases h1 with rfl | rfl | rfl | rfl <;> rcases h2 with rfl | rfl | rfl | rfl <;> exact fun _ => ⟨(121 : Int32), rfl, (own_eP (by decide)).symm⟩
theorem own_H_13 {dl rl d r : Int32} (h1 : own_q dl) (h2 : own_q rl) : own_Hm (own_vs dl rl d r) ((16 : Int32) + dl + rl) (32 : Int32) (13 : Int32) dl d r := by
  rcases h1 with rfl | rfl | rfl | rfl <;> rcases h2 with rfl | rfl | rfl | rfl <;> exact fun _ => ⟨(32 : Int32), rfl, (own_eP (by decide)).symm⟩
theorem own_H_14 {dl rl d r : Int32} (h1 : own_q dl) (h2 : own_q rl) : own_Hm (own_vs dl rl d r) ((16 : Int32) + dl + rl) (0 : Int32) (14 : Int32) dl d r := by
  rcases h1 with rfl | rfl | rfl | rfl
  · rcases h2 with rfl | rfl | rfl | rfl <;> exact fun _ => ⟨(58 : Int32), rfl, own_eC (by decide) (by decide) (by decide)⟩
  · rcases h2 with rfl | rfl | rfl | rfl <;> exact fun _ => ⟨_, rfl, own_eD (0 : Int32) (by decide) (by decide) (by decide)⟩
  · rcases h2 with rfl | rfl | rfl | rfl <;> exact fun _ => ⟨_, rfl, own_eD (0 : Int32) (by decide) (by decide) (by decide)⟩
  · rcases h2 with rfl | rfl | rfl | rfl <;> exact fun _ => ⟨_, rfl, own_eD (0 : Int32) (by decide) (by decide) (by decide)⟩
theorem own_H_15 {dl rl d r : Int32} (h1 : own_q dl) (h2 : own_q rl) : own_Hm (own_vs dl rl d r) ((16 : Int32) + dl + rl) (0 : Int32) (15 : Int32) dl d r := by
  rcases h1 with rfl | rfl | rfl | rfl
  · rcases h2 with rfl | rfl | rfl | rfl <;> exact fun _ => ⟨(32 : Int32), rfl, own_eS (by decide) (by decide) (by decide) (by decide)⟩
  · rcases h2 with rfl | rfl | rfl | rfl <;> exact fun _ => ⟨(58 : Int32), rfl, own_eC (by decide) (by decide) (by decide)⟩
  · rcases h2 with rfl | rfl | rfl | rfl <;> exact fun _ => ⟨_, rfl, own_eD (1 : Int32) (by decide) (by decide) (by decide)⟩
  · rcases h2 with rfl | rfl | rfl | rfl <;> exact fun _ => ⟨_, rfl, own_eD (1 : Int32) (by decide) (by decide) (by decide)⟩
theorem own_H_16 {dl rl d r : Int32} (h1 : own_q dl) (h2 : own_q rl) : own_Hm (own_vs dl rl d r) ((16 : Int32) + dl + rl) (0 : Int32) (16 : Int32) dl d r := by
  rcases h1 with rfl | rfl | rfl | rfl
  · rcases h2 with rfl | rfl | rfl | rfl
    · exact fun q => absurd q (by decide)
    · exact fun _ => ⟨_, rfl, own_eR (0 : Int32) (by decide) (by decide) (by decide) (by decide) (by decide)⟩
    · exact fun _ => ⟨_, rfl, own_eR (0 : Int32) (by decide) (by decide) (by decide) (by decide) (by decide)⟩
    · exact fun _ => ⟨_, rfl, own_eR (0 : Int32) (by decide) (by decide) (by decide) (by decide) (by decide)⟩
  · rcases h2 with rfl | rfl | rfl | rfl <;> exact fun _ => ⟨(32 : Int32), rfl, own_eS (by decide) (by decide) (by decide) (by decide)⟩
  · rcases h2 with rfl | rfl | rfl | rfl <;> exact fun _ => ⟨(58 : Int32), rfl, own_eC (by decide) (by decide) (by decide)⟩
  · rcases h2 with rfl | rfl | rfl | rfl <;> exact fun _ => ⟨_, rfl, own_eD (2 : Int32) (by decide) (by decide) (by decide)⟩
theorem own_H_17 {dl rl d r : Int32} (h1 : own_q dl) (h2 : own_q rl) : own_Hm (own_vs dl rl d r) ((16 : Int32) + dl + rl) (0 : Int32) (17 : Int32) dl d r := by
  rcases h1 with rfl | rfl | rfl | rfl
  · rcases h2 with rfl | rfl | rfl | rfl
    · exact fun q => absurd q (by decide)
    · exact fun q => absurd q (by decide)
    · exact fun _ => ⟨_, rfl, own_eR (1 : Int32) (by decide) (by decide) (by decide) (by decide) (by decide)⟩
    · exact fun _ => ⟨_, rfl, own_eR (1 : Int32) (by decide) (by decide) (by decide) (by decide) (by decide)⟩
  · rcases h2 with rfl | rfl | rfl | rfl
    · exact fun q => absurd q (by decide)
    · exact fun _ => ⟨_, rfl, own_eR (0 : Int32) (by decide) (by decide) (by decide) (by decide) (by decide)⟩
    · exact fun _ => ⟨_, rfl, own_eR (0 : Int32) (by decide) (by decide) (by decide) (by decide) (by decide)⟩
    · exact fun _ => ⟨_, rfl, own_eR (0 : Int32) (by decide) (by decide) (by decide) (by decide) (by decide)⟩
  · rcases h2 with rfl | rfl | rfl | rfl <;> exact fun _ => ⟨(32 : Int32), rfl, own_eS (by decide) (by decide) (by decide) (by decide)⟩
  · rcases h2 with rfl | rfl | rfl | rfl <;> exact fun _ => ⟨(58 : Int32), rfl, own_eC (by decide) (by decide) (by decide)⟩
theorem own_H_18 {dl rl d r : Int32} (h1 : own_q dl) (h2 : own_q rl) : own_Hm (own_vs dl rl d r) ((16 : Int32) + dl + rl) (0 : Int32) (18 : Int32) dl d r := by
  rcases h1 with rfl | rfl | rfl | rfl
  · rcases h2 with rfl | rfl | rfl | rfl
    · exact fun q => absurd q (by decide)
    · exact fun q => absurd q (by decide)
    · exact fun q => absurd q (by decide)
    · exact fun _ => ⟨_, rfl, own_eR (2 : Int32) (by decide) (by decide) (by decide) (by decide) (by decide)⟩
  · rcases h2 with rfl | rfl | rfl | rfl
    · exact fun q => absurd q (by decide)
    · exact fun q => absurd q (by decide)
    · exact fun _ => ⟨_, rfl, own_eR (1 : Int32) (by decide) (by decide) (by decide) (by decide) (by decide)⟩
    · exact fun _ => ⟨_, rfl, own_eR (1 : Int32) (by decide) (by decide) (by decide) (by decide) (by decide)⟩
  · rcases h2 with rfl | rfl | rfl | rfl
    · exact fun q => absurd q (by decide)
    · exact fun _ => ⟨_, rfl, own_eR (0 : Int32) (by decide) (by decide) (by decide) (by decide) (by decide)⟩
    · exact fun _ => ⟨_, rfl, own_eR (0 : Int32) (by decide) (by decide) (by decide) (by decide) (by decide)⟩
    · exact fun _ => ⟨_, rfl, own_eR (0 : Int32) (by decide) (by decide) (by decide) (by decide) (by decide)⟩
  · rcases h2 with rfl | rfl | rfl | rfl <;> exact fun _ => ⟨(32 : Int32), rfl, own_eS (by decide) (by decide) (by decide) (by decide)⟩
theorem own_H_19 {dl rl d r : Int32} (h1 : own_q dl) (h2 : own_q rl) : own_Hm (own_vs dl rl d r) ((16 : Int32) + dl + rl) (0 : Int32) (19 : Int32) dl d r := by
  rcases h1 with rfl | rfl | rfl | rfl
  · rcases h2 with rfl | rfl | rfl | rfl <;> exact fun q => absurd q (by decide)
  · rcases h2 with rfl | rfl | rfl | rfl
    · exact fun q => absurd q (by decide)
    · exact fun q => absurd q (by decide)
    · exact fun q => absurd q (by decide)
    · exact fun _ => ⟨_, rfl, own_eR (2 : Int32) (by decide) (by decide) (by decide) (by decide) (by decide)⟩
  · rcases h2 with rfl | rfl | rfl | rfl
    · exact fun q => absurd q (by decide)
    · exact fun q => absurd q (by decide)
    · exact fun _ => ⟨_, rfl, own_eR (1 : Int32) (by decide) (by decide) (by decide) (by decide) (by decide)⟩
    · exact fun _ => ⟨_, rfl, own_eR (1 : Int32) (by decide) (by decide) (by decide) (by decide) (by decide)⟩
  · rcases h2 with rfl | rfl | rfl | rfl
    · exact fun q => absurd q (by decide)
    · exact fun _ => ⟨_, rfl, own_eR (0 : Int32) (by decide) (by decide) (by decide) (by decide) (by decide)⟩
    · exact fun _ => ⟨_, rfl, own_eR (0 : Int32) (by decide) (by decide) (by decide) (by decide) (by decide)⟩
    · exact fun _ => ⟨_, rfl, own_eR (0 : Int32) (by decide) (by decide) (by decide) (by decide) (by decide)⟩
theorem own_H_20 {dl rl d r : Int32} (h1 : own_q dl) (h2 : own_q rl) : own_Hm (own_vs dl rl d r) ((16 : Int32) + dl + rl) (0 : Int32) (20 : Int32) dl d r := by
  rcases h1 with rfl | rfl | rfl | rfl
  · rcases h2 with rfl | rfl | rfl | rfl <;> exact fun q => absurd q (by decide)
  · rcases h2 with rfl | rfl | rfl | rfl <;> exact fun q => absurd q (by decide)
  · rcases h2 with rfl | rfl | rfl | rfl
    · exact fun q => absurd q (by decide)
    · exact fun q => absurd q (by decide)
    · exact fun q => absurd q (by decide)
    · exact fun _ => ⟨_, rfl, own_eR (2 : Int32) (by decide) (by decide) (by decide) (by decide) (by decide)⟩
  · rcases h2 with rfl | rfl | rfl | rfl
    · exact fun q => absurd q (by decide)
    · exact fun q => absurd q (by decide)
    · exact fun _ => ⟨_, rfl, own_eR (1 : Int32) (by decide) (by decide) (by decide) (by decide) (by decide)⟩
    · exact fun _ => ⟨_, rfl, own_eR (1 : Int32) (by decide) (by decide) (by decide) (by decide) (by decide)⟩
theorem own_H_21 {dl rl d r : Int32} (h1 : own_q dl) (h2 : own_q rl) : own_Hm (own_vs dl rl d r) ((16 : Int32) + dl + rl) (0 : Int32) (21 : Int32) dl d r := by
  rcases h1 with rfl | rfl | rfl | rfl
  · rcases h2 with rfl | rfl | rfl | rfl <;> exact fun q => absurd q (by decide)
  · rcases h2 with rfl | rfl | rfl | rfl <;> exact fun q => absurd q (by decide)
  · rcases h2 with rfl | rfl | rfl | rfl <;> exact fun q => absurd q (by decide)
  · rcases h2 with rfl | rfl | rfl | rfl
    · exact fun q => absurd q (by decide)
    · exact fun q => absurd q (by decide)
    · exact fun q => absurd q (by decide)
    · exact fun _ => ⟨_, rfl, own_eR (2 : Int32) (by decide) (by decide) (by decide) (by decide) (by decide)⟩
theorem m_law (hw : own_hw a0 Z) (hZs : Z.heap.size = n0) {zc : Int32} {fm : Value} (lens d r : Int32) (hS : own_S Z zc fm) (hheld : ∀ p ∈ consts_1, Jvm.Lit.constHeld Z p.1 p.2) (hcw : Jvm.Lit.compactW.before a0 Z = true) (hl : l.stackTraces = true) {u0 u1 : Value} (hT2 : own_Two Z u0 u1) :
    DoesLK l Z n0 x code maxLocals ret tables_1 room_1 #[(.int lens), (.int d), (.int r)] (fun v _ => v = some (.int 1)) := by
  refine DoesLK.start hZs (plainFor_of_name pn_1) ?_
  obtain ⟨S_zc, hzc, S_fm, hfm⟩ := id hS
  intro p e s m below meth c T X Y hsZ hTK
  replace X : Sd _ _ _ _ _ "com/example/inflow/inflow/model/DeploymentExceptionForDescriptorPinLaw" "law" _ _ _ _ _ _ _ _ _ _ _ _ _ _ _ _ := X
  have I0 : IB Z s.vm [] := by rw [hsZ]; exact IB.start
  refine Wp.cast (g' := mkF m 0 #[.val (.int lens), .val (.int d), .val (.int r), .unset, .unset, .unset, .unset, .unset, .unset] []) (by first | (simp [entryFrame, mkF, argsToLocals, Value.category, maxLocals]; done) | rfl) ?_
  refine w_iloadN X d_0 rfl ?_
  refine w_iconst X (3 : Int32) d_1 rfl ?_
  refine w_iand X d_2 ?_
  refine w_istoreN X #[.val (.int lens), .val (.int d), .val (.int r), .val (.int (lens &&& (3 : Int32))), .unset, .unset, .unset, .unset, .unset] d_3 rfl ?_
  refine w_iloadN X d_4 rfl ?_
  refine w_iconst X (2 : Int32) d_5 rfl ?_
  refine w_iushr X d_6 ?_
  refine w_iconst X (3 : Int32) d_7 rfl ?_
  refine w_iand X d_8 ?_
  refine w_istore X #[.val (.int lens), .val (.int d), .val (.int r), .val (.int (lens &&& (3 : Int32))), .val (.int (((lens.toUInt32 >>> ((2 : Int32) &&& 31).toUInt32).toInt32) &&& (3 : Int32))), .unset, .unset, .unset, .unset] d_9 rfl ?_
  refine w_iloadN X d_11 rfl ?_
  refine w_iconst X (0 : Int32) d_12 rfl ?_
  refine w_callS X d_13 (wd_0 hw) (wd_1 hw) (wd_2 hw) (wd_3 hw) (by decide) (argsL := [(.int d), (.int 0)]) (S := []) (m_byt hw) pd_32 rfl rfl rfl (by decide) (leR rfl) (by decide) (by decide) (fun T h1 v1 L1 X q1 => ?_)
  obtain ⟨rfl, rfl⟩ := q1
  show Wp _ _ _ _ (T.setTop (mkF _ _ _ [(.int (own_byt d (0 : Int32)))]))
  refine w_iloadN X d_16 rfl ?_
  refine w_iconst X (1 : Int32) d_17 rfl ?_
  refine w_callS X d_18 (wd_0 hw) (wd_1 hw) (wd_2 hw) (wd_3 hw) (by decide) (argsL := [(.int d), (.int 1)]) (S := [(.int (own_byt d (0 : Int32)))]) (m_byt hw) pd_32 rfl rfl rfl (by decide) (leR rfl) (by decide) (by decide) (fun T h2 v2 L2 X q2 => ?_)
  obtain ⟨rfl, rfl⟩ := q2
  show Wp _ _ _ _ (T.setTop (mkF _ _ _ [(.int (own_byt d (1 : Int32))), (.int (own_byt d (0 : Int32)))]))
  refine w_iloadN X d_21 rfl ?_
  refine w_iconst X (2 : Int32) d_22 rfl ?_
  refine w_callS X d_23 (wd_0 hw) (wd_1 hw) (wd_2 hw) (wd_3 hw) (by decide) (argsL := [(.int d), (.int 2)]) (S := [(.int (own_byt d (1 : Int32))), (.int (own_byt d (0 : Int32)))]) (m_byt hw) pd_32 rfl rfl rfl (by decide) (leR rfl) (by decide) (by decide) (fun T h3 v3 L3 X q3 => ?_)
  obtain ⟨rfl, rfl⟩ := q3
  show Wp _ _ _ _ (T.setTop (mkF _ _ _ [(.int (own_byt d (2 : Int32))), (.int (own_byt d (1 : Int32))), (.int (own_byt d (0 : Int32)))]))
  refine w_iloadN X d_26 rfl ?_
  refine g_callS X Y (fun vm' hW => (own_G.ib I0 : own_G Z Z.heap s.vm).warm hW) d_27 (wd_4 hw) (wd_5 hw) (wd_2 hw) (wd_6 hw) (by decide) (argsL := [(.int (own_byt d (0 : Int32))), (.int (own_byt d (1 : Int32))), (.int (own_byt d (2 : Int32))), (.int (lens &&& (3 : Int32)))]) (S := []) (m_pickA hw hS hheld hcw (own_qA _) (own_bytL _ _) (own_bytN _ _) (own_bytL _ _) (own_bytN _ _) (own_bytL _ _) (own_bytN _ _)) pd_35 rfl rfl rfl (by decide) (leR rfl) (by decide) (by decide) (fun T h4 v4 L4 u kk X Y q4 => ?_)
  obtain ⟨a4, t4, rfl, Tx4, Kc4, M4⟩ := q4
  show Wp _ _ _ _ (T.setTop (mkF _ _ _ [(.ref a4)]))
  refine w_astore X #[.val (.int lens), .val (.int d), .val (.int r), .val (.int (lens &&& (3 : Int32))), .val (.int (((lens.toUInt32 >>> ((2 : Int32) &&& 31).toUInt32).toInt32) &&& (3 : Int32))), .val (.ref a4), .unset, .unset, .unset] d_30 (rfl) rfl ?_
  refine w_iloadN X d_32 rfl ?_
  refine w_iconst X (0 : Int32) d_33 rfl ?_
  refine w_callS X d_34 (wd_0 hw) (wd_1 hw) (wd_2 hw) (wd_3 hw) (by decide) (argsL := [(.int r), (.int 0)]) (S := []) (m_byt hw) pd_32 rfl rfl rfl (by decide) (leR rfl) (by decide) (by decide) (fun T h5 v5 L5 X q5 => ?_)
  obtain ⟨rfl, rfl⟩ := q5
  show Wp _ _ _ _ (T.setTop (mkF _ _ _ [(.int (own_byt r (0 : Int32)))]))
  refine w_iloadN X d_37 rfl ?_
  refine w_iconst X (1 : Int32) d_38 rfl ?_
  refine w_callS X d_39 (wd_0 hw) (wd_1 hw) (wd_2 hw) (wd_3 hw) (by decide) (argsL := [(.int r), (.int 1)]) (S := [(.int (own_byt r (0 : Int32)))]) (m_byt hw) pd_32 rfl rfl rfl (by decide) (leR rfl) (by decide) (by decide) (fun T h6 v6 L6 X q6 => ?_)
  obtain ⟨rfl, rfl⟩ := q6
  show Wp _ _ _ _ (T.setTop (mkF _ _ _ [(.int (own_byt r (1 : Int32))), (.int (own_byt r (0 : Int32)))]))
  refine w_iloadN X d_42 rfl ?_
  refine w_iconst X (2 : Int32) d_43 rfl ?_
  refine w_callS X d_44 (wd_0 hw) (wd_1 hw) (wd_2 hw) (wd_3 hw) (by decide) (argsL := [(.int r), (.int 2)]) (S := [(.int (own_byt r (1 : Int32))), (.int (own_byt r (0 : Int32)))]) (m_byt hw) pd_32 rfl rfl rfl (by decide) (leR rfl) (by decide) (by decide) (fun T h7 v7 L7 X q7 => ?_)
  obtain ⟨rfl, rfl⟩ := q7
  show Wp _ _ _ _ (T.setTop (mkF _ _ _ [(.int (own_byt r (2 : Int32))), (.int (own_byt r (1 : Int32))), (.int (own_byt r (0 : Int32)))]))
  refine w_iload X d_47 rfl ?_
  refine g_callS X Y (fun vm' hW => M4.warm hW) d_49 (wd_4 hw) (wd_5 hw) (wd_2 hw) (wd_6 hw) (by decide) (argsL := [(.int (own_byt r (0 : Int32))), (.int (own_byt r (1 : Int32))), (.int (own_byt r (2 : Int32))), (.int (((lens.toUInt32 >>> ((2 : Int32) &&& 31).toUInt32).toInt32) &&& (3 : Int32)))]) (S := []) (m_pickA hw hS hheld hcw (own_qA _) (own_bytL _ _) (own_bytN _ _) (own_bytL _ _) (own_bytN _ _) (own_bytL _ _) (own_bytN _ _)) pd_35 rfl rfl rfl (by decide) (leR rfl) (by decide) (by decide) (fun T h8 v8 L8 u kk X Y q8 => ?_)
  obtain ⟨a8, t8, rfl, Tx8, Kc8, M8⟩ := q8
  show Wp _ _ _ _ (T.setTop (mkF _ _ _ [(.ref a8)]))
  refine w_astore X #[.val (.int lens), .val (.int d), .val (.int r), .val (.int (lens &&& (3 : Int32))), .val (.int (((lens.toUInt32 >>> ((2 : Int32) &&& 31).toUInt32).toInt32) &&& (3 : Int32))), .val (.ref a4), .val (.ref a8), .unset, .unset] d_52 (rfl) rfl ?_
  refine w_aload X d_54 rfl (rfl) ?_
  refine w_aload X d_56 rfl (rfl) ?_
  have f1 := (Tx4.keep Kc8 (List.not_mem_nil) (List.not_mem_nil))
  refine k_callS X Y (fun vm' hW => M8.warm hW) (own_known hTK Y.1.alike) d_58 (wd_29 hw) (wd_30 hw) (wd_31 hw) (wd_32 hw) (by decide) (argsL := [(.ref a4), (.ref a8)]) (S := []) (m_fd hw hS hl hT2 f1 Tx8 (own_Dm hw hS hheld hcw (own_qA _) (own_qA _))) pd_36 rfl rfl rfl (by decide) (leR rfl) (by decide) (by decide) (fun T h9 v9 L9 u kk X Y q9 => ?_)
  obtain ⟨e9, m9, t9, rfl, E9, F9, Tm9, Kc9, Me9⟩ := q9
  show Wp _ _ _ _ (T.setTop (mkF _ _ _ [(.ref e9)]))
  refine w_astore X #[.val (.int lens), .val (.int d), .val (.int r), .val (.int (lens &&& (3 : Int32))), .val (.int (((lens.toUInt32 >>> ((2 : Int32) &&& 31).toUInt32).toInt32) &&& (3 : Int32))), .val (.ref a4), .val (.ref a8), .val (.ref e9), .unset] d_61 (rfl) rfl ?_
  refine w_aload X d_63 rfl (rfl) ?_
  refine w_ifnonnullT X d_65 ?_
  refine w_aload X d_70 rfl (rfl) ?_
  refine w_callU X d_72 (wd_206 hw) (wd_207 hw) (wd_208 hw) (by decide) (wd_210 hw) (wd_209 hw) (wd_167 hw) (wd_211 hw) E9 (argsL := []) (S := []) (m_gm hw F9) pd_29 rfl rfl rfl (by decide) (leR rfl) (by decide) (by decide) (fun T h10 v10 L10 X q10 => ?_)
  obtain ⟨rfl, rfl⟩ := q10
  show Wp _ _ _ _ (T.setTop (mkF _ _ _ [(.ref m9)]))
  refine w_astore X #[.val (.int lens), .val (.int d), .val (.int r), .val (.int (lens &&& (3 : Int32))), .val (.int (((lens.toUInt32 >>> ((2 : Int32) &&& 31).toUInt32).toInt32) &&& (3 : Int32))), .val (.ref a4), .val (.ref a8), .val (.ref e9), .val (.ref m9)] d_75 (rfl) rfl ?_
  refine w_aload X d_77 rfl (rfl) ?_
  refine w_ifnonnullT X d_79 ?_
  refine w_aload X d_84 rfl (rfl) ?_
  refine w_callV X d_86 (wd_212 hw) (wd_68 hw) (nfs X.hZ (wd_70 hw)) (wd_70 hw) (wd_69 hw) (wd_9 hw) (wd_71 hw) (by decide) Tm9.1 (argsL := []) (S := []) (m_lnG hw hS Tm9.1 Tm9.2.1 Tm9.2.2.1 Tm9.2.2.2 (own_len (own_qA _) (own_qA _))) pd_18 rfl rfl rfl (by decide) (leR rfl) (by decide) (by decide) (fun T h11 v11 L11 X q11 => ?_)
  obtain ⟨rfl, rfl⟩ := q11
  show Wp _ _ _ _ (T.setTop (mkF _ _ _ [(.int (((16 : Int32) + (lens &&& (3 : Int32))) + (((lens.toUInt32 >>> ((2 : Int32) &&& 31).toUInt32).toInt32) &&& (3 : Int32))))]))
  refine w_bipush X (16 : Int32) d_89 rfl ?_
  refine w_iloadN X d_91 rfl ?_
  refine w_iadd X d_92 ?_
  refine w_iload X d_93 rfl ?_
  refine w_iadd X d_95 ?_
  refine w_icmpeq X d_96 (fun _ => ?_) (fun hc => absurd rfl hc)
  refine w_aload X d_101 rfl (rfl) ?_
  refine w_iconst X (0 : Int32) d_103 rfl ?_
  refine w_iloadN X d_104 rfl ?_
  refine w_iloadN X d_105 rfl ?_
  refine w_iloadN X d_106 rfl ?_
  refine g_callS X Y (fun vm' hW => Me9.warm hW) d_107 (wd_213 hw) (wd_214 hw) (wd_2 hw) (wd_215 hw) (by decide) (argsL := [(.ref m9), (.int 0), (.int (lens &&& (3 : Int32))), (.int d), (.int r)]) (S := []) (m_at0 hw hS hheld hcw ⟨Tm9.1, Tm9.2.1, Tm9.2.2.1, Tm9.2.2.2⟩ (own_len (own_qA _) (own_qA _)) (own_0n (own_qA _) (own_qA _)) rfl) pd_37 rfl rfl rfl (by decide) (leR rfl) (by decide) (by decide) (fun T h12 v12 L12 u kk X Y q12 => ?_)
  obtain ⟨rfl, aL12, tL12, Lt12, TL12, Kc12⟩ := q12
  show Wp _ _ _ _ (T.setTop (mkF _ _ _ [(.int 1)]))
  refine w_ifeq X d_110 (fun hc => absurd hc (by decide)) (fun _ => ?_)
  refine w_aload X d_113 rfl (rfl) ?_
  refine w_iconst X (1 : Int32) d_115 rfl ?_
  refine w_iloadN X d_116 rfl ?_
  refine w_iloadN X d_117 rfl ?_
  refine w_iloadN X d_118 rfl ?_
  have f2 := (Tm9.1.keep Kc12)
  have f3 := (Tm9.2.1.keep Kc12 (List.not_mem_nil))
  have f4 := (Tm9.2.2.1.keep Kc12 (List.not_mem_nil))
  have f5 := (Tm9.2.2.2.keep Kc12 (List.not_mem_nil))
  refine g_callS X Y (fun vm' hW => Lit.stays (s := s) (vm0 := _) Lt12 hW.wide) d_119 (wd_213 hw) (wd_214 hw) (wd_2 hw) (wd_215 hw) (by decide) (argsL := [(.ref m9), (.int 1), (.int (lens &&& (3 : Int32))), (.int d), (.int r)]) (S := []) (m_at hw hS ⟨f2, f3, f4, f5⟩ (own_len (own_qA _) (own_qA _)) ⟨TL12.1, TL12.2.1, TL12.2.2.1, TL12.2.2.2⟩ (x0 := (97 : Int32)) (by decide) (fun _ => rfl) (own_H_1 (own_qA _) (own_qA _))) pd_37 rfl rfl rfl (by decide) (leR rfl) (by decide) (by decide) (fun T h13 v13 L13 u kk X Y q13 => ?_)
  obtain ⟨rfl, rfl, Lt13⟩ := q13
  show Wp _ _ _ _ (T.setTop (mkF _ _ _ [(.int 1)]))
  refine w_ifeq X d_122 (fun hc => absurd hc (by decide)) (fun _ => ?_)
  refine w_aload X d_125 rfl (rfl) ?_
  refine w_iconst X (2 : Int32) d_127 rfl ?_
  refine w_iloadN X d_128 rfl ?_
  refine w_iloadN X d_129 rfl ?_
  refine w_iloadN X d_130 rfl ?_
  refine g_callS X Y (fun vm' hW => Lit.stays (s := s) (vm0 := _) Lt13 hW.wide) d_131 (wd_213 hw) (wd_214 hw) (wd_2 hw) (wd_215 hw) (by decide) (argsL := [(.ref m9), (.int 2), (.int (lens &&& (3 : Int32))), (.int d), (.int r)]) (S := []) (m_at hw hS ⟨f2, f3, f4, f5⟩ (own_len (own_qA _) (own_qA _)) ⟨TL12.1, TL12.2.1, TL12.2.2.1, TL12.2.2.2⟩ (x0 := (110 : Int32)) (by decide) (fun _ => rfl) (own_H_2 (own_qA _) (own_qA _))) pd_37 rfl rfl rfl (by decide) (leR rfl) (by decide) (by decide) (fun T h14 v14 L14 u kk X Y q14 => ?_)
  obtain ⟨rfl, rfl, Lt14⟩ := q14
  show Wp _ _ _ _ (T.setTop (mkF _ _ _ [(.int 1)]))
  refine w_ifeq X d_134 (fun hc => absurd hc (by decide)) (fun _ => ?_)
  refine w_aload X d_137 rfl (rfl) ?_
  refine w_iconst X (3 : Int32) d_139 rfl ?_
  refine w_iloadN X d_140 rfl ?_
  refine w_iloadN X d_141 rfl ?_
  refine w_iloadN X d_142 rfl ?_
  refine g_callS X Y (fun vm' hW => Lit.stays (s := s) (vm0 := _) Lt14 hW.wide) d_143 (wd_213 hw) (wd_214 hw) (wd_2 hw) (wd_215 hw) (by decide) (argsL := [(.ref m9), (.int 3), (.int (lens &&& (3 : Int32))), (.int d), (.int r)]) (S := []) (m_at hw hS ⟨f2, f3, f4, f5⟩ (own_len (own_qA _) (own_qA _)) ⟨TL12.1, TL12.2.1, TL12.2.2.1, TL12.2.2.2⟩ (x0 := (110 : Int32)) (by decide) (fun _ => rfl) (own_H_3 (own_qA _) (own_qA _))) pd_37 rfl rfl rfl (by decide) (leR rfl) (by decide) (by decide) (fun T h15 v15 L15 u kk X Y q15 => ?_)
  obtain ⟨rfl, rfl, Lt15⟩ := q15
  show Wp _ _ _ _ (T.setTop (mkF _ _ _ [(.int 1)]))
  refine w_ifeq X d_146 (fun hc => absurd hc (by decide)) (fun _ => ?_)
  refine w_aload X d_149 rfl (rfl) ?_
  refine w_iconst X (4 : Int32) d_151 rfl ?_
  refine w_iloadN X d_152 rfl ?_
  refine w_iloadN X d_153 rfl ?_
  refine w_iloadN X d_154 rfl ?_
  refine g_callS X Y (fun vm' hW => Lit.stays (s := s) (vm0 := _) Lt15 hW.wide) d_155 (wd_213 hw) (wd_214 hw) (wd_2 hw) (wd_215 hw) (by decide) (argsL := [(.ref m9), (.int 4), (.int (lens &&& (3 : Int32))), (.int d), (.int r)]) (S := []) (m_at hw hS ⟨f2, f3, f4, f5⟩ (own_len (own_qA _) (own_qA _)) ⟨TL12.1, TL12.2.1, TL12.2.2.1, TL12.2.2.2⟩ (x0 := (111 : Int32)) (by decide) (fun _ => rfl) (own_H_4 (own_qA _) (own_qA _))) pd_37 rfl rfl rfl (by decide) (leR rfl) (by decide) (by decide) (fun T h16 v16 L16 u kk X Y q16 => ?_)
  obtain ⟨rfl, rfl, Lt16⟩ := q16
  show Wp _ _ _ _ (T.setTop (mkF _ _ _ [(.int 1)]))
  refine w_ifeq X d_158 (fun hc => absurd hc (by decide)) (fun _ => ?_)
  refine w_aload X d_161 rfl (rfl) ?_
  refine w_iconst X (5 : Int32) d_163 rfl ?_
  refine w_iloadN X d_164 rfl ?_
  refine w_iloadN X d_165 rfl ?_
  refine w_iloadN X d_166 rfl ?_
  refine g_callS X Y (fun vm' hW => Lit.stays (s := s) (vm0 := _) Lt16 hW.wide) d_167 (wd_213 hw) (wd_214 hw) (wd_2 hw) (wd_215 hw) (by decide) (argsL := [(.ref m9), (.int 5), (.int (lens &&& (3 : Int32))), (.int d), (.int r)]) (S := []) (m_at hw hS ⟨f2, f3, f4, f5⟩ (own_len (own_qA _) (own_qA _)) ⟨TL12.1, TL12.2.1, TL12.2.2.1, TL12.2.2.2⟩ (x0 := (116 : Int32)) (by decide) (fun _ => rfl) (own_H_5 (own_qA _) (own_qA _))) pd_37 rfl rfl rfl (by decide) (leR rfl) (by decide) (by decide) (fun T h17 v17 L17 u kk X Y q17 => ?_)
  obtain ⟨rfl, rfl, Lt17⟩ := q17
  show Wp _ _ _ _ (T.setTop (mkF _ _ _ [(.int 1)]))
  refine w_ifeq X d_170 (fun hc => absurd hc (by decide)) (fun _ => ?_)
  refine w_aload X d_173 rfl (rfl) ?_
  refine w_bipush X (6 : Int32) d_175 rfl ?_
  refine w_iloadN X d_177 rfl ?_
  refine w_iloadN X d_178 rfl ?_
  refine w_iloadN X d_179 rfl ?_
  refine g_callS X Y (fun vm' hW => Lit.stays (s := s) (vm0 := _) Lt17 hW.wide) d_180 (wd_213 hw) (wd_214 hw) (wd_2 hw) (wd_215 hw) (by decide) (argsL := [(.ref m9), (.int 6), (.int (lens &&& (3 : Int32))), (.int d), (.int r)]) (S := []) (m_at hw hS ⟨f2, f3, f4, f5⟩ (own_len (own_qA _) (own_qA _)) ⟨TL12.1, TL12.2.1, TL12.2.2.1, TL12.2.2.2⟩ (x0 := (32 : Int32)) (by decide) (fun _ => rfl) (own_H_6 (own_qA _) (own_qA _))) pd_37 rfl rfl rfl (by decide) (leR rfl) (by decide) (by decide) (fun T h18 v18 L18 u kk X Y q18 => ?_)
  obtain ⟨rfl, rfl, Lt18⟩ := q18
  show Wp _ _ _ _ (T.setTop (mkF _ _ _ [(.int 1)]))
  refine w_ifeq X d_183 (fun hc => absurd hc (by decide)) (fun _ => ?_)
  refine w_aload X d_186 rfl (rfl) ?_
  refine w_bipush X (7 : Int32) d_188 rfl ?_
  refine w_iloadN X d_190 rfl ?_
  refine w_iloadN X d_191 rfl ?_
  refine w_iloadN X d_192 rfl ?_
  refine g_callS X Y (fun vm' hW => Lit.stays (s := s) (vm0 := _) Lt18 hW.wide) d_193 (wd_213 hw) (wd_214 hw) (wd_2 hw) (wd_215 hw) (by decide) (argsL := [(.ref m9), (.int 7), (.int (lens &&& (3 : Int32))), (.int d), (.int r)]) (S := []) (m_at hw hS ⟨f2, f3, f4, f5⟩ (own_len (own_qA _) (own_qA _)) ⟨TL12.1, TL12.2.1, TL12.2.2.1, TL12.2.2.2⟩ (x0 := (100 : Int32)) (by decide) (fun _ => rfl) (own_H_7 (own_qA _) (own_qA _))) pd_37 rfl rfl rfl (by decide) (leR rfl) (by decide) (by decide) (fun T h19 v19 L19 u kk X Y q19 => ?_)
  obtain ⟨rfl, rfl, Lt19⟩ := q19
  show Wp _ _ _ _ (T.setTop (mkF _ _ _ [(.int 1)]))
  refine w_ifeq X d_196 (fun hc => absurd hc (by decide)) (fun _ => ?_)
  refine w_aload X d_199 rfl (rfl) ?_
  refine w_bipush X (8 : Int32) d_201 rfl ?_
  refine w_iloadN X d_203 rfl ?_
  refine w_iloadN X d_204 rfl ?_
  refine w_iloadN X d_205 rfl ?_
  refine g_callS X Y (fun vm' hW => Lit.stays (s := s) (vm0 := _) Lt19 hW.wide) d_206 (wd_213 hw) (wd_214 hw) (wd_2 hw) (wd_215 hw) (by decide) (argsL := [(.ref m9), (.int 8), (.int (lens &&& (3 : Int32))), (.int d), (.int r)]) (S := []) (m_at hw hS ⟨f2, f3, f4, f5⟩ (own_len (own_qA _) (own_qA _)) ⟨TL12.1, TL12.2.1, TL12.2.2.1, TL12.2.2.2⟩ (x0 := (101 : Int32)) (by decide) (fun _ => rfl) (own_H_8 (own_qA _) (own_qA _))) pd_37 rfl rfl rfl (by decide) (leR rfl) (by decide) (by decide) (fun T h20 v20 L20 u kk X Y q20 => ?_)
  obtain ⟨rfl, rfl, Lt20⟩ := q20
  show Wp _ _ _ _ (T.setTop (mkF _ _ _ [(.int 1)]))
  refine w_ifeq X d_209 (fun hc => absurd hc (by decide)) (fun _ => ?_)
  refine w_aload X d_212 rfl (rfl) ?_
  refine w_bipush X (9 : Int32) d_214 rfl ?_
  refine w_iloadN X d_216 rfl ?_
  refine w_iloadN X d_217 rfl ?_
  refine w_iloadN X d_218 rfl ?_
  refine g_callS X Y (fun vm' hW => Lit.stays (s := s) (vm0 := _) Lt20 hW.wide) d_219 (wd_213 hw) (wd_214 hw) (wd_2 hw) (wd_215 hw) (by decide) (argsL := [(.ref m9), (.int 9), (.int (lens &&& (3 : Int32))), (.int d), (.int r)]) (S := []) (m_at hw hS ⟨f2, f3, f4, f5⟩ (own_len (own_qA _) (own_qA _)) ⟨TL12.1, TL12.2.1, TL12.2.2.1, TL12.2.2.2⟩ (x0 := (112 : Int32)) (by decide) (fun _ => rfl) (own_H_9 (own_qA _) (own_qA _))) pd_37 rfl rfl rfl (by decide) (leR rfl) (by decide) (by decide) (fun T h21 v21 L21 u kk X Y q21 => ?_)
  obtain ⟨rfl, rfl, Lt21⟩ := q21
  show Wp _ _ _ _ (T.setTop (mkF _ _ _ [(.int 1)]))
  refine w_ifeq X d_222 (fun hc => absurd hc (by decide)) (fun _ => ?_)
  refine w_aload X d_225 rfl (rfl) ?_
  refine w_bipush X (10 : Int32) d_227 rfl ?_
  refine w_iloadN X d_229 rfl ?_
  refine w_iloadN X d_230 rfl ?_
  refine w_iloadN X d_231 rfl ?_
  refine g_callS X Y (fun vm' hW => Lit.stays (s := s) (vm0 := _) Lt21 hW.wide) d_232 (wd_213 hw) (wd_214 hw) (wd_2 hw) (wd_215 hw) (by decide) (argsL := [(.ref m9), (.int 10), (.int (lens &&& (3 : Int32))), (.int d), (.int r)]) (S := []) (m_at hw hS ⟨f2, f3, f4, f5⟩ (own_len (own_qA _) (own_qA _)) ⟨TL12.1, TL12.2.1, TL12.2.2.1, TL12.2.2.2⟩ (x0 := (108 : Int32)) (by decide) (fun _ => rfl) (own_H_10 (own_qA _) (own_qA _))) pd_37 rfl rfl rfl (by decide) (leR rfl) (by decide) (by decide) (fun T h22 v22 L22 u kk X Y q22 => ?_)
  obtain ⟨rfl, rfl, Lt22⟩ := q22
  show Wp _ _ _ _ (T.setTop (mkF _ _ _ [(.int 1)]))
  refine w_ifeq X d_235 (fun hc => absurd hc (by decide)) (fun _ => ?_)
  refine w_aload X d_238 rfl (rfl) ?_
  refine w_bipush X (11 : Int32) d_240 rfl ?_
  refine w_iloadN X d_242 rfl ?_
  refine w_iloadN X d_243 rfl ?_
  refine w_iloadN X d_244 rfl ?_
  refine g_callS X Y (fun vm' hW => Lit.stays (s := s) (vm0 := _) Lt22 hW.wide) d_245 (wd_213 hw) (wd_214 hw) (wd_2 hw) (wd_215 hw) (by decide) (argsL := [(.ref m9), (.int 11), (.int (lens &&& (3 : Int32))), (.int d), (.int r)]) (S := []) (m_at hw hS ⟨f2, f3, f4, f5⟩ (own_len (own_qA _) (own_qA _)) ⟨TL12.1, TL12.2.1, TL12.2.2.1, TL12.2.2.2⟩ (x0 := (111 : Int32)) (by decide) (fun _ => rfl) (own_H_11 (own_qA _) (own_qA _))) pd_37 rfl rfl rfl (by decide) (leR rfl) (by decide) (by decide) (fun T h23 v23 L23 u kk X Y q23 => ?_)
  obtain ⟨rfl, rfl, Lt23⟩ := q23
  show Wp _ _ _ _ (T.setTop (mkF _ _ _ [(.int 1)]))
  refine w_ifeq X d_248 (fun hc => absurd hc (by decide)) (fun _ => ?_)
  refine w_aload X d_251 rfl (rfl) ?_
  refine w_bipush X (12 : Int32) d_253 rfl ?_
  refine w_iloadN X d_255 rfl ?_
  refine w_iloadN X d_256 rfl ?_
  refine w_iloadN X d_257 rfl ?_
  refine g_callS X Y (fun vm' hW => Lit.stays (s := s) (vm0 := _) Lt23 hW.wide) d_258 (wd_213 hw) (wd_214 hw) (wd_2 hw) (wd_215 hw) (by decide) (argsL := [(.ref m9), (.int 12), (.int (lens &&& (3 : Int32))), (.int d), (.int r)]) (S := []) (m_at hw hS ⟨f2, f3, f4, f5⟩ (own_len (own_qA _) (own_qA _)) ⟨TL12.1, TL12.2.1, TL12.2.2.1, TL12.2.2.2⟩ (x0 := (121 : Int32)) (by decide) (fun _ => rfl) (own_H_12 (own_qA _) (own_qA _))) pd_37 rfl rfl rfl (by decide) (leR rfl) (by decide) (by decide) (fun T h24 v24 L24 u kk X Y q24 => ?_)
  obtain ⟨rfl, rfl, Lt24⟩ := q24
  show Wp _ _ _ _ (T.setTop (mkF _ _ _ [(.int 1)]))
  refine w_ifeq X d_261 (fun hc => absurd hc (by decide)) (fun _ => ?_)
  refine w_aload X d_264 rfl (rfl) ?_
  refine w_bipush X (13 : Int32) d_266 rfl ?_
  refine w_iloadN X d_268 rfl ?_
  refine w_iloadN X d_269 rfl ?_
  refine w_iloadN X d_270 rfl ?_
  refine g_callS X Y (fun vm' hW => Lit.stays (s := s) (vm0 := _) Lt24 hW.wide) d_271 (wd_213 hw) (wd_214 hw) (wd_2 hw) (wd_215 hw) (by decide) (argsL := [(.ref m9), (.int 13), (.int (lens &&& (3 : Int32))), (.int d), (.int r)]) (S := []) (m_at hw hS ⟨f2, f3, f4, f5⟩ (own_len (own_qA _) (own_qA _)) ⟨TL12.1, TL12.2.1, TL12.2.2.1, TL12.2.2.2⟩ (x0 := (32 : Int32)) (by decide) (fun _ => rfl) (own_H_13 (own_qA _) (own_qA _))) pd_37 rfl rfl rfl (by decide) (leR rfl) (by decide) (by decide) (fun T h25 v25 L25 u kk X Y q25 => ?_)
  obtain ⟨rfl, rfl, Lt25⟩ := q25
  show Wp _ _ _ _ (T.setTop (mkF _ _ _ [(.int 1)]))
  refine w_ifeq X d_274 (fun hc => absurd hc (by decide)) (fun _ => ?_)
  refine w_aload X d_277 rfl (rfl) ?_
  refine w_bipush X (14 : Int32) d_279 rfl ?_
  refine w_iloadN X d_281 rfl ?_
  refine w_iloadN X d_282 rfl ?_
  refine w_iloadN X d_283 rfl ?_
  refine g_callS X Y (fun vm' hW => Lit.stays (s := s) (vm0 := _) Lt25 hW.wide) d_284 (wd_213 hw) (wd_214 hw) (wd_2 hw) (wd_215 hw) (by decide) (argsL := [(.ref m9), (.int 14), (.int (lens &&& (3 : Int32))), (.int d), (.int r)]) (S := []) (m_at hw hS ⟨f2, f3, f4, f5⟩ (own_len (own_qA _) (own_qA _)) ⟨TL12.1, TL12.2.1, TL12.2.2.1, TL12.2.2.2⟩ (x0 := (0 : Int32)) (by decide) (fun q => absurd q (by decide)) (own_H_14 (own_qA _) (own_qA _))) pd_37 rfl rfl rfl (by decide) (leR rfl) (by decide) (by decide) (fun T h26 v26 L26 u kk X Y q26 => ?_)
  obtain ⟨rfl, rfl, Lt26⟩ := q26
  show Wp _ _ _ _ (T.setTop (mkF _ _ _ [(.int 1)]))
  refine w_ifeq X d_287 (fun hc => absurd hc (by decide)) (fun _ => ?_)
  refine w_aload X d_290 rfl (rfl) ?_
  refine w_bipush X (15 : Int32) d_292 rfl ?_
  refine w_iloadN X d_294 rfl ?_
  refine w_iloadN X d_295 rfl ?_
  refine w_iloadN X d_296 rfl ?_
  refine g_callS X Y (fun vm' hW => Lit.stays (s := s) (vm0 := _) Lt26 hW.wide) d_297 (wd_213 hw) (wd_214 hw) (wd_2 hw) (wd_215 hw) (by decide) (argsL := [(.ref m9), (.int 15), (.int (lens &&& (3 : Int32))), (.int d), (.int r)]) (S := []) (m_at hw hS ⟨f2, f3, f4, f5⟩ (own_len (own_qA _) (own_qA _)) ⟨TL12.1, TL12.2.1, TL12.2.2.1, TL12.2.2.2⟩ (x0 := (0 : Int32)) (by decide) (fun q => absurd q (by decide)) (own_H_15 (own_qA _) (own_qA _))) pd_37 rfl rfl rfl (by decide) (leR rfl) (by decide) (by decide) (fun T h27 v27 L27 u kk X Y q27 => ?_)
  obtain ⟨rfl, rfl, Lt27⟩ := q27
  show Wp _ _ _ _ (T.setTop (mkF _ _ _ [(.int 1)]))
  refine w_ifeq X d_300 (fun hc => absurd hc (by decide)) (fun _ => ?_)
  refine w_aload X d_303 rfl (rfl) ?_
  refine w_bipush X (16 : Int32) d_305 rfl ?_
  refine w_iloadN X d_307 rfl ?_
  refine w_iloadN X d_308 rfl ?_
  refine w_iloadN X d_309 rfl ?_
  refine g_callS X Y (fun vm' hW => Lit.stays (s := s) (vm0 := _) Lt27 hW.wide) d_310 (wd_213 hw) (wd_214 hw) (wd_2 hw) (wd_215 hw) (by decide) (argsL := [(.ref m9), (.int 16), (.int (lens &&& (3 : Int32))), (.int d), (.int r)]) (S := []) (m_at hw hS ⟨f2, f3, f4, f5⟩ (own_len (own_qA _) (own_qA _)) ⟨TL12.1, TL12.2.1, TL12.2.2.1, TL12.2.2.2⟩ (x0 := (0 : Int32)) (by decide) (fun q => absurd q (by decide)) (own_H_16 (own_qA _) (own_qA _))) pd_37 rfl rfl rfl (by decide) (leR rfl) (by decide) (by decide) (fun T h28 v28 L28 u kk X Y q28 => ?_)
  obtain ⟨rfl, rfl, Lt28⟩ := q28
  show Wp _ _ _ _ (T.setTop (mkF _ _ _ [(.int 1)]))
  refine w_ifeq X d_313 (fun hc => absurd hc (by decide)) (fun _ => ?_)
  refine w_aload X d_316 rfl (rfl) ?_
  refine w_bipush X (17 : Int32) d_318 rfl ?_
  refine w_iloadN X d_320 rfl ?_
  refine w_iloadN X d_321 rfl ?_
  refine w_iloadN X d_322 rfl ?_
  refine g_callS X Y (fun vm' hW => Lit.stays (s := s) (vm0 := _) Lt28 hW.wide) d_323 (wd_213 hw) (wd_214 hw) (wd_2 hw) (wd_215 hw) (by decide) (argsL := [(.ref m9), (.int 17), (.int (lens &&& (3 : Int32))), (.int d), (.int r)]) (S := []) (m_at hw hS ⟨f2, f3, f4, f5⟩ (own_len (own_qA _) (own_qA _)) ⟨TL12.1, TL12.2.1, TL12.2.2.1, TL12.2.2.2⟩ (x0 := (0 : Int32)) (by decide) (fun q => absurd q (by decide)) (own_H_17 (own_qA _) (own_qA _))) pd_37 rfl rfl rfl (by decide) (leR rfl) (by decide) (by decide) (fun T h29 v29 L29 u kk X Y q29 => ?_)
  obtain ⟨rfl, rfl, Lt29⟩ := q29
  show Wp _ _ _ _ (T.setTop (mkF _ _ _ [(.int 1)]))
  refine w_ifeq X d_326 (fun hc => absurd hc (by decide)) (fun _ => ?_)
  refine w_aload X d_329 rfl (rfl) ?_
  refine w_bipush X (18 : Int32) d_331 rfl ?_
  refine w_iloadN X d_333 rfl ?_
  refine w_iloadN X d_334 rfl ?_
  refine w_iloadN X d_335 rfl ?_
  refine g_callS X Y (fun vm' hW => Lit.stays (s := s) (vm0 := _) Lt29 hW.wide) d_336 (wd_213 hw) (wd_214 hw) (wd_2 hw) (wd_215 hw) (by decide) (argsL := [(.ref m9), (.int 18), (.int (lens &&& (3 : Int32))), (.int d), (.int r)]) (S := []) (m_at hw hS ⟨f2, f3, f4, f5⟩ (own_len (own_qA _) (own_qA _)) ⟨TL12.1, TL12.2.1, TL12.2.2.1, TL12.2.2.2⟩ (x0 := (0 : Int32)) (by decide) (fun q => absurd q (by decide)) (own_H_18 (own_qA _) (own_qA _))) pd_37 rfl rfl rfl (by decide) (leR rfl) (by decide) (by decide) (fun T h30 v30 L30 u kk X Y q30 => ?_)
  obtain ⟨rfl, rfl, Lt30⟩ := q30
  show Wp _ _ _ _ (T.setTop (mkF _ _ _ [(.int 1)]))
  refine w_ifeq X d_339 (fun hc => absurd hc (by decide)) (fun _ => ?_)
  refine w_aload X d_342 rfl (rfl) ?_
  refine w_bipush X (19 : Int32) d_344 rfl ?_
  refine w_iloadN X d_346 rfl ?_
  refine w_iloadN X d_347 rfl ?_
  refine w_iloadN X d_348 rfl ?_
  refine g_callS X Y (fun vm' hW => Lit.stays (s := s) (vm0 := _) Lt30 hW.wide) d_349 (wd_213 hw) (wd_214 hw) (wd_2 hw) (wd_215 hw) (by decide) (argsL := [(.ref m9), (.int 19), (.int (lens &&& (3 : Int32))), (.int d), (.int r)]) (S := []) (m_at hw hS ⟨f2, f3, f4, f5⟩ (own_len (own_qA _) (own_qA _)) ⟨TL12.1, TL12.2.1, TL12.2.2.1, TL12.2.2.2⟩ (x0 := (0 : Int32)) (by decide) (fun q => absurd q (by decide)) (own_H_19 (own_qA _) (own_qA _))) pd_37 rfl rfl rfl (by decide) (leR rfl) (by decide) (by decide) (fun T h31 v31 L31 u kk X Y q31 => ?_)
  obtain ⟨rfl, rfl, Lt31⟩ := q31
  show Wp _ _ _ _ (T.setTop (mkF _ _ _ [(.int 1)]))
  refine w_ifeq X d_352 (fun hc => absurd hc (by decide)) (fun _ => ?_)
  refine w_aload X d_355 rfl (rfl) ?_
  refine w_bipush X (20 : Int32) d_357 rfl ?_
  refine w_iloadN X d_359 rfl ?_
  refine w_iloadN X d_360 rfl ?_
  refine w_iloadN X d_361 rfl ?_
  refine g_callS X Y (fun vm' hW => Lit.stays (s := s) (vm0 := _) Lt31 hW.wide) d_362 (wd_213 hw) (wd_214 hw) (wd_2 hw) (wd_215 hw) (by decide) (argsL := [(.ref m9), (.int 20), (.int (lens &&& (3 : Int32))), (.int d), (.int r)]) (S := []) (m_at hw hS ⟨f2, f3, f4, f5⟩ (own_len (own_qA _) (own_qA _)) ⟨TL12.1, TL12.2.1, TL12.2.2.1, TL12.2.2.2⟩ (x0 := (0 : Int32)) (by decide) (fun q => absurd q (by decide)) (own_H_20 (own_qA _) (own_qA _))) pd_37 rfl rfl rfl (by decide) (leR rfl) (by decide) (by decide) (fun T h32 v32 L32 u kk X Y q32 => ?_)
  obtain ⟨rfl, rfl, Lt32⟩ := q32
  show Wp _ _ _ _ (T.setTop (mkF _ _ _ [(.int 1)]))
  refine w_ifeq X d_365 (fun hc => absurd hc (by decide)) (fun _ => ?_)
  refine w_aload X d_368 rfl (rfl) ?_
  refine w_bipush X (21 : Int32) d_370 rfl ?_
  refine w_iloadN X d_372 rfl ?_
  refine w_iloadN X d_373 rfl ?_
  refine w_iloadN X d_374 rfl ?_
  refine g_callS X Y (fun vm' hW => Lit.stays (s := s) (vm0 := _) Lt32 hW.wide) d_375 (wd_213 hw) (wd_214 hw) (wd_2 hw) (wd_215 hw) (by decide) (argsL := [(.ref m9), (.int 21), (.int (lens &&& (3 : Int32))), (.int d), (.int r)]) (S := []) (m_at hw hS ⟨f2, f3, f4, f5⟩ (own_len (own_qA _) (own_qA _)) ⟨TL12.1, TL12.2.1, TL12.2.2.1, TL12.2.2.2⟩ (x0 := (0 : Int32)) (by decide) (fun q => absurd q (by decide)) (own_H_21 (own_qA _) (own_qA _))) pd_37 rfl rfl rfl (by decide) (leR rfl) (by decide) (by decide) (fun T h33 v33 L33 u kk X Y q33 => ?_)
  obtain ⟨rfl, rfl, Lt33⟩ := q33
  show Wp _ _ _ _ (T.setTop (mkF _ _ _ [(.int 1)]))
  refine w_ifeq X d_378 (fun hc => absurd hc (by decide)) (fun _ => ?_)
  refine w_iconst X (1 : Int32) d_381 rfl ?_
  refine w_goto X d_382 ?_
  exact v_ret_boolean X Y (1 : Int32) (by decide) d_386 rfl (by decide) (by decide)
theorem comes_1 {Post : Tables → Env → Array Value → State → Outcome → State → Prop} (hpost : ∀ tb e args s v u, (limb_1_1.after args s (.returned v) u = true ∧ limb_1_2.after args s (.returned v) u = true ∧ True) → ReturnedEndW s (.returned v) u (Jvm.fieldLocs frame_1_writes args s ++ Jvm.arrayLocs frame_1_arrays args s ++ Jvm.staticLocs frame_1_statics s) 48 9920 → Post tb e args s (.returned v) u) :
    ArmFor flags0 classFile x code maxLocals ret World_1 tables_1 room_1 Calls_1 rest_1 Pre_1 Post := by
  intro l hfl _ _ p e ha hc hk s m args below hf hA hF happ hP
  obtain ⟨hcalls, hrest, hpre⟩ := hP
  obtain ⟨-, -, -, hnamed, -, -, -, hat⟩ := (Spec.applies_iff hf).mp happ
  obtain ⟨hg, hn⟩ := and_e (Cond.before_iff.mp (show (Jvm.Cond.and given_1 narrow_1).before args s = true from hpre))
  obtain ⟨hcount, hg1⟩ := and_e hg
  obtain ⟨ha0, hg2⟩ := and_e hg1
  obtain ⟨ha1, hg3⟩ := and_e hg2
  have ha2 := hg3
  obtain ⟨w0, w1, w2, rfl⟩ : ∃ w0 w1 w2 : Value, args = #[w0, w1, w2] := by
    have hs : args.size = 3 := by simpa [Cond.value, given_1] using hcount
    obtain ⟨L⟩ := args
    match L, hs with
    | [w0, w1, w2], _ => exact ⟨w0, w1, w2, rfl⟩
  have hw := fun d (hd : d ∈ tables_1) => atoms_spec (ws := Jvm.Cond.code x code maxLocals ret :: tables_1) hat d (List.mem_cons_of_mem _ hd)
  have hfit : Fit s := fun {y c} hc i hi => by
    obtain ⟨ha, rfl⟩ := Array.getElem?_eq_some_iff.mp hc
    have q := List.all_eq_true.mp ((Array.all_eq_true_iff_forall_mem.mp hF) _ (Array.getElem_mem ha)) i (List.mem_range.mpr hi)
    simpa [Array.getElem?_eq_getElem hi] using q
  obtain ⟨hsets, hown0⟩ := atoms_of _ (rest_1_c_eq ▸ (show rest_1_c.before _ s = true from hrest))
  have hr0 := Cond.before_iff.mp hown0
  obtain ⟨i0, ei0⟩ := is_v ha0
  obtain rfl : w0 = (.int i0) := Option.some.inj ei0
  obtain ⟨i1, ei1⟩ := is_v ha1
  obtain rfl : w1 = (.int i1) := Option.some.inj ei1
  obtain ⟨i2, ei2⟩ := is_v ha2
  obtain rfl : w2 = (.int i2) := Option.some.inj ei2
  obtain ⟨zc, ezc⟩ := is_v (Cond.before_iff.mp (hsets _ (List.mem_of_getElem? (i := 1) rfl)))
  have S_zc : Sta s s.heap "java/lang/String" "COMPACT_STRINGS" "Z" (.int zc) := Sta.start ezc (Or.inl (hsets _ (List.mem_of_getElem? (i := 0) rfl)))
  have hcw : Jvm.Lit.compactW.before _ s = true := (hsets _ (List.mem_of_getElem? (i := 2) rfl))
  have hzc : ¬ zc = 0 := gotF (own_eqI ezc rfl) (not_v (Cond.before_iff.mp hcw))
  obtain ⟨fm, efm, hfm⟩ := isR_v (Cond.before_iff.mp (hsets _ (List.mem_of_getElem? (i := 8) rfl)))
  have S_fm : Sta s s.heap "jdk/internal/util/Preconditions" "SIOOBE_FORMATTER" "Ljava/util/function/BiFunction;" fm := Sta.start efm (Or.inl (hsets _ (List.mem_of_getElem? (i := 7) rfl)))
  have hl : l.stackTraces = true := by unfold Jvm.Launch.stackTraces; rw [hfl]; decide +kernel
  obtain ⟨u0, hu0, S_u0⟩ := own_staR (h := s.heap) (wd_167 hw) (wd_198 hw) (hsets _ (List.mem_of_getElem? (i := 16) rfl)) ⟨Nat.le_refl _, fun _ _ q => q⟩
  obtain ⟨u1, hu1, S_u1⟩ := own_staR (h := s.heap) (wd_167 hw) (wd_199 hw) (hsets _ (List.mem_of_getElem? (i := 21) rfl)) ⟨Nat.le_refl _, fun _ _ q => q⟩
  obtain ⟨n, o, h1, h2, h3, v, L, rfl, ⟨N, -, -, rfl⟩, hq⟩ := m_law (l := l) (Z := s) (n0 := s.heap.size) hw rfl i0 i1 i2 ⟨S_zc, hzc, S_fm, hfm⟩ (fun p hp => hcalls.2.2.1 p hp) hcw hl ⟨hu0, hu1, S_u0, S_u1⟩ p e ha hc hk s m _ below hf ((Spec.applies_iff_loose hf).mp happ).1 ⟨rfl, rfl⟩ ⟨MethodsKnown_of_tablesKnown hcalls.2.1, FramesKnown_of_framesKnown hcalls.1 hf⟩
  refine ⟨n, _, h1, h2, h3, hpost _ _ _ _ _ _ ⟨Cond.after_iff.mpr rfl, Cond.after_iff.mpr (eq_i res_at (Term.int_eval (1)) rfl), trivial⟩ ⟨hq.1, hq.2.1, hq.2.2.1, (hq.2.2.2.sift fun y hy => Or.inr (N y hy)).mono (by decide) (by decide)⟩⟩
theorem main_1_1 : Claimed_1_1 := comes_1 fun _ _ _ _ _ _ h hF => ⟨h.1, hF⟩
theorem main_1_2 : Claimed_1_2 := comes_1 fun _ _ _ _ _ _ h hF => ⟨h.2.1, hF⟩
end Jvm.Pilot.@@N@@
namespace Jvm.Pilot.@@N@@
open Jvm Jvm.ClassFile Sem Op Lib Jvm.Free Jvm.Stand Jvm.Pilot.@@N@@.Jvm.D
/-! MADE BY PROGRAM (witnessworld.py) out of the Statement's table words and the real class files: 42 classes; the members and pool entries that the words name. The judged class is class 1, her method 1. -/
namespace start1
open Jvm.ClassFile
def u (s : String) : CpInfo := .utf8 (stringToUtf16 s)
/-- a pool by its gaps: so many unusable entries, then the entry; so many at the end -/
def gap : Nat → List CpInfo → List CpInfo
  | 0, r => r
  | n + 1, r => .unusable :: gap n r
def poolList (es : List (Nat × CpInfo)) (last : Nat) : List CpInfo := es.foldr (fun e r => gap e.1 (e.2 :: r)) (gap last [])
def pool (es : List (Nat × CpInfo)) (last : Nat) : Array CpInfo := ⟨poolList es last⟩
def fileOf (pool : Array CpInfo) (this : Nat) (attrs : Array Attribute := #[]) (ms : Array MethodInfo := #[]) (fl : Nat := 33) (sup : Nat := 0) (ifs : Array Nat := #[]) (fds : Array FieldInfo := #[]) : ClassFile where
  minorVersion := 0
  majorVersion := 65
  constantPool := pool
  accessFlags := fl
  thisClass := this
  superClass := sup
  interfaces := ifs
  fields := fds
  methods := ms
  attributes := attrs
def plain (name : String) (sup : Option ClassId) : Class where
  name := name
  kind := .ordinary
  loader := none
  accessFlags := 33
  super := sup
  interfaces := #[]
  cf := none
  fields := #[]
  methods := #[]
  instanceTypes := #[]
  staticTypes := #[]
  resolved := #[]
  callSites := []
  init := .initialized
  statics := none
  mirror := none

def pool0 : Array CpInfo := pool [(5, u "<init>"), (0, u "()V"), (1, .class_ 10), (1, u "java/lang/Object"), (85, u "clone"), (0, u "()Ljava/lang/Object;")] 26

def k0c0 : Code := { maxStack := 0, maxLocals := 1, code := object_method_1_code, exceptionTable := #[], attributes := #[] }
def k0m0 : Method := { name := "<init>", desc := "()V", sig := { parameters := [], returnType := none }, accessFlags := 1, code := some k0c0 }
def k0m1 : Method := { name := "clone", desc := "()Ljava/lang/Object;", sig := { parameters := [], returnType := some (.object "java/lang/Object") }, accessFlags := 260, code := none }
/-- java/lang/Object -/
def k0 : Class := { plain "java/lang/Object" none with
  accessFlags := 33
  interfaces := #[]
  cf := some (fileOf pool0 8 #[] #[{ accessFlags := 1, nameIndex := 5, descriptorIndex := 6, attributes := #[] }, { accessFlags := 260, nameIndex := 96, descriptorIndex := 97, attributes := #[] }] 33 0 #[] #[])
  fields := #[]
  methods := #[k0m0, k0m1]
  instanceTypes := #[]
  staticTypes := #[]
  resolved := Array.replicate 124 none
  statics := none }

def pool1 : Array CpInfo := pool [(2, .class_ 4), (1, u "java/lang/Object"), (0, u "<init>"), (0, u "()V"), (0, .methodref 8 9), (0, .class_ 10), (0, .nameAndType 11 12), (0, u "com/example/inflow/inflow/model/DeploymentExceptionForDescriptorPinLaw"), (0, u "byteAt"), (0, u "(II)C"), (0, .methodref 8 14), (0, .nameAndType 15 16), (0, u "pick"), (0, u "(CCCI)Ljava/lang/String;"), (0, .methodref 18 19), (0, .class_ 20), (0, .nameAndType 21 22), (0, u "com/example/inflow/inflow/model/DeploymentException"), (0, u "forDescriptor"), (0, u "(Ljava/lang/String;Ljava/lang/String;)Lcom/example/inflow/inflow/model/DeploymentException;"), (0, .methodref 18 24), (0, .nameAndType 25 26), (0, u "getMessage"), (0, u "()Ljava/lang/String;"), (0, .methodref 28 29), (0, .class_ 30), (0, .nameAndType 31 32), (0, u "java/lang/String"), (0, u "length"), (0, u "()I"), (0, .methodref 8 34), (0, .nameAndType 35 36), (0, u "at"), (0, u "(Ljava/lang/String;IIII)Z"), (0, .methodref 28 38), (0, .nameAndType 5 39), (0, u "([C)V"), (0, .methodref 28 41), (0, .nameAndType 42 43), (0, u "valueOf"), (0, u "(C)Ljava/lang/String;"), (0, .methodref 28 45), (0, .nameAndType 46 47), (0, u "charAt"), (0, u "(I)C"), (0, .methodref 8 49), (0, .nameAndType 50 51), (0, u "expected"), (0, u "(IIII)C"), (0, .string 53), (0, u "Cannot deploy "), (2, u "law"), (0, u "(III)Z")] 3

def k1m0 : Method := { name := "<init>", desc := "()V", sig := { parameters := [], returnType := none }, accessFlags := 2, code := none }
def k1c1 : Code := { maxStack := 5, maxLocals := 9, code := code, exceptionTable := #[], attributes := #[] }
def k1m1 : Method := { name := "law", desc := "(III)Z", sig := { parameters := [.int, .int, .int], returnType := some .boolean }, accessFlags := 9, code := some k1c1 }
def k1c2 : Code := { maxStack := 3, maxLocals := 2, code := method_3_code, exceptionTable := #[], attributes := #[] }
def k1m2 : Method := { name := "byteAt", desc := "(II)C", sig := { parameters := [.int, .int], returnType := some .char }, accessFlags := 10, code := some k1c2 }
def k1c3 : Code := { maxStack := 6, maxLocals := 4, code := method_4_code, exceptionTable := #[], attributes := #[] }
def k1m3 : Method := { name := "pick", desc := "(CCCI)Ljava/lang/String;", sig := { parameters := [.char, .char, .char, .int], returnType := some (.object "java/lang/String") }, accessFlags := 10, code := some k1c3 }
def k1c4 : Code := { maxStack := 5, maxLocals := 5, code := method_5_code, exceptionTable := #[], attributes := #[] }
def k1m4 : Method := { name := "at", desc := "(Ljava/lang/String;IIII)Z", sig := { parameters := [(.object "java/lang/String"), .int, .int, .int, .int], returnType := some .boolean }, accessFlags := 10, code := some k1c4 }
def k1c5 : Code := { maxStack := 3, maxLocals := 6, code := method_6_code, exceptionTable := #[], attributes := #[] }
def k1m5 : Method := { name := "expected", desc := "(IIII)C", sig := { parameters := [.int, .int, .int, .int], returnType := some .char }, accessFlags := 10, code := some k1c5 }
/-- com/example/inflow/inflow/model/DeploymentExceptionForDescriptorPinLaw -/
def k1 : Class := { plain "com/example/inflow/inflow/model/DeploymentExceptionForDescriptorPinLaw" (some 0) with
  accessFlags := 49
  interfaces := #[]
  cf := some (fileOf pool1 8 #[] #[{ accessFlags := 2, nameIndex := 5, descriptorIndex := 6, attributes := #[] }, { accessFlags := 9, nameIndex := 56, descriptorIndex := 57, attributes := #[] }, { accessFlags := 10, nameIndex := 11, descriptorIndex := 12, attributes := #[] }, { accessFlags := 10, nameIndex := 15, descriptorIndex := 16, attributes := #[] }, { accessFlags := 10, nameIndex := 35, descriptorIndex := 36, attributes := #[] }, { accessFlags := 10, nameIndex := 50, descriptorIndex := 51, attributes := #[] }] 49 2 #[] #[])
  fields := #[]
  methods := #[k1m0, k1m1, k1m2, k1m3, k1m4, k1m5]
  instanceTypes := #[]
  staticTypes := #[]
  resolved := Array.replicate 61 none
  statics := none }

def pool2 : Array CpInfo := pool [(1, .class_ 2), (0, u "java/io/Serializable"), (0, .class_ 4), (0, u "java/lang/Object")] 2

/-- java/io/Serializable -/
def k2 : Class := { plain "java/io/Serializable" (some 0) with
  accessFlags := 1537
  interfaces := #[]
  cf := some (fileOf pool2 1 #[] #[] 1537 3 #[] #[])
  fields := #[]
  methods := #[]
  instanceTypes := #[]
  staticTypes := #[]
  resolved := Array.replicate 7 none
  statics := none }

def pool3 : Array CpInfo := pool [(1, .class_ 2), (0, u "java/lang/Comparable"), (0, .class_ 4), (0, u "java/lang/Object")] 7

/-- java/lang/Comparable -/
def k3 : Class := { plain "java/lang/Comparable" (some 0) with
  accessFlags := 1537
  interfaces := #[]
  cf := some (fileOf pool3 1 #[] #[] 1537 3 #[] #[])
  fields := #[]
  methods := #[]
  instanceTypes := #[]
  staticTypes := #[]
  resolved := Array.replicate 12 none
  statics := none }

def pool4 : Array CpInfo := pool [(2, .class_ 4), (1, u "java/lang/CharSequence"), (42, .class_ 48), (0, u "java/lang/CharSequence$1CodePointIterator"), (10, .class_ 60), (0, u "java/lang/CharSequence$1CharIterator"), (5, .class_ 67), (0, u "java/lang/Object")] 63

/-- java/lang/CharSequence -/
def k4 : Class := { plain "java/lang/CharSequence" (some 0) with
  accessFlags := 1537
  interfaces := #[]
  cf := some (fileOf pool4 2 #[.nestMembers #[47, 59]] #[] 1537 66 #[] #[])
  fields := #[]
  methods := #[]
  instanceTypes := #[]
  staticTypes := #[]
  resolved := Array.replicate 131 none
  statics := none }

def pool5 : Array CpInfo := pool [(1, .class_ 2), (0, u "java/lang/constant/Constable"), (0, .class_ 4), (0, u "java/lang/Object")] 6

/-- java/lang/constant/Constable -/
def k5 : Class := { plain "java/lang/constant/Constable" (some 0) with
  accessFlags := 1537
  interfaces := #[]
  cf := some (fileOf pool5 1 #[] #[] 1537 3 #[] #[])
  fields := #[]
  methods := #[]
  instanceTypes := #[]
  staticTypes := #[]
  resolved := Array.replicate 11 none
  statics := none }

def pool6 : Array CpInfo := pool [(1, .class_ 2), (0, u "java/lang/constant/ConstantDesc"), (0, .class_ 4), (0, u "java/lang/Object")] 32

/-- java/lang/constant/ConstantDesc -/
def k6 : Class := { plain "java/lang/constant/ConstantDesc" (some 0) with
  accessFlags := 1537
  interfaces := #[]
  cf := some (fileOf pool6 1 #[] #[] 1537 3 #[] #[])
  fields := #[]
  methods := #[]
  instanceTypes := #[]
  staticTypes := #[]
  resolved := Array.replicate 37 none
  statics := none }

def pool7 : Array CpInfo := pool [(1, .methodref 2 3), (0, .class_ 4), (0, .nameAndType 5 6), (0, u "java/lang/Object"), (0, u "<init>"), (0, u "()V"), (0, .string 8), (0, u ""), (0, .fieldref 10 11), (0, .class_ 12), (0, .nameAndType 13 14), (0, u "java/lang/String"), (0, u "value"), (0, u "[B"), (0, .fieldref 10 16), (0, .nameAndType 17 18), (0, u "coder"), (0, u "B"), (2, u "hash"), (0, u "I"), (2, u "hashIsZero"), (0, u "Z"), (0, .methodref 10 28), (0, .nameAndType 5 29), (0, u "([CIILjava/lang/Void;)V"), (8, .fieldref 10 39), (0, .nameAndType 40 26), (0, u "COMPACT_STRINGS"), (1, .class_ 44), (1, u "java/lang/StringUTF16"), (0, u "compress"), (1, .methodref 42 48), (0, .nameAndType 49 50), (0, u "coderFromArrayLen"), (0, u "([BI)B"), (2, u "toBytes"), (0, .methodref 55 56), (0, .class_ 57), (0, .nameAndType 58 59), (0, u "java/util/Arrays"), (0, u "copyOfRange"), (0, u "([BII)[B"), (47, .class_ 109), (1, u "java/lang/StringLatin1"), (32, u "()Z"), (34, .methodref 42 178), (0, .nameAndType 45 179), (0, u "([CII)[B"), (13, .class_ 195), (1, u "java/lang/System"), (13, .methodref 10 210), (0, .nameAndType 5 211), (0, u "([BB)V"), (0, .methodref 193 213), (0, .nameAndType 214 215), (0, u "arraycopy"), (0, u "(Ljava/lang/Object;ILjava/lang/Object;II)V"), (118, u "()I"), (0, .methodref 10 336), (0, .nameAndType 17 337), (0, u "()B"), (2, u "()[B"), (22, u "([BI)C"), (5, u "(C)Z"), (21, u "(II)V"), (35, u "(I)C"), (61, .methodref 10 490), (0, .nameAndType 5 491), (0, u "(Ljava/lang/AbstractStringBuilder;Ljava/lang/Void;)V"), (0, .methodref 10 493), (0, .nameAndType 494 142), (0, u "isLatin1"), (0, .methodref 107 496), (0, .nameAndType 497 363), (0, u "charAt"), (3, u "checkIndex"), (4, .nameAndType 507 334), (0, u "length"), (24, u "getBytes"), (16, .methodref 550 506), (0, .class_ 551), (0, u "java/lang/AbstractStringBuilder"), (0, .methodref 550 553), (0, .nameAndType 554 340), (0, u "getValue"), (20, .class_ 576), (0, u "java/lang/CharSequence"), (22, u "CASE_INSENSITIVE_ORDER"), (0, u "Ljava/util/Comparator;"), (181, u "valueOf"), (0, u "(C)Ljava/lang/String;"), (37, u "([BIB)V"), (188, u "([C)V"), (4, .methodref 107 1016), (0, .nameAndType 1017 369), (0, u "canEncode"), (0, .methodref 107 1019), (0, .nameAndType 53 1020), (0, u "(C)[B"), (26, .methodref 550 493), (5, .fieldref 1054 1055), (0, .class_ 1056), (0, .nameAndType 1057 1058), (0, u "jdk/internal/util/Preconditions"), (0, u "SIOOBE_FORMATTER"), (0, u "Ljava/util/function/BiFunction;"), (0, .methodref 1054 1060), (0, .nameAndType 501 1061), (0, u "(IILjava/util/function/BiFunction;)I"), (39, u "serialPersistentFields"), (0, u "[Ljava/io/ObjectStreamField;"), (0, .class_ 1104), (0, u "java/lang/String$CaseInsensitiveComparator"), (1, .class_ 1107), (0, u "java/io/Serializable"), (0, .class_ 1109), (0, u "java/lang/Comparable"), (0, .class_ 1111), (0, u "java/lang/constant/Constable"), (0, .class_ 1113), (0, u "java/lang/constant/ConstantDesc"), (2, u "serialVersionUID"), (0, u "J"), (3, u "REPL"), (0, u "C"), (2, u "LATIN1"), (1, u "UTF16"), (105, u "(Ljava/lang/StringBuilder;)V")] 217

def k7m0 : Method := { name := "<init>", desc := "()V", sig := { parameters := [], returnType := none }, accessFlags := 1, code := none }
def k7c1 : Code := { maxStack := 5, maxLocals := 2, code := jdk_42_method_3_code, exceptionTable := #[], attributes := #[] }
def k7m1 : Method := { name := "<init>", desc := "([C)V", sig := { parameters := [(.array .char)], returnType := none }, accessFlags := 1, code := some k7c1 }
def k7c2 : Code := { maxStack := 3, maxLocals := 2, code := jdk_42_method_53_code, exceptionTable := #[], attributes := #[] }
def k7m2 : Method := { name := "<init>", desc := "(Ljava/lang/StringBuilder;)V", sig := { parameters := [(.object "java/lang/StringBuilder")], returnType := none }, accessFlags := 1, code := some k7c2 }
def k7c3 : Code := { maxStack := 2, maxLocals := 1, code := jdk_42_method_54_code, exceptionTable := #[], attributes := #[] }
def k7m3 : Method := { name := "length", desc := "()I", sig := { parameters := [], returnType := some .int }, accessFlags := 1, code := some k7c3 }
def k7c4 : Code := { maxStack := 2, maxLocals := 2, code := jdk_42_method_56_code, exceptionTable := #[], attributes := #[] }
def k7m4 : Method := { name := "charAt", desc := "(I)C", sig := { parameters := [.int], returnType := some .char }, accessFlags := 1, code := some k7c4 }
def k7c5 : Code := { maxStack := 4, maxLocals := 1, code := jdk_42_method_139_code, exceptionTable := #[], attributes := #[] }
def k7m5 : Method := { name := "valueOf", desc := "(C)Ljava/lang/String;", sig := { parameters := [.char], returnType := some (.object "java/lang/String") }, accessFlags := 9, code := some k7c5 }
def k7c6 : Code := { maxStack := 5, maxLocals := 4, code := jdk_42_method_147_code, exceptionTable := #[], attributes := #[] }
def k7m6 : Method := { name := "getBytes", desc := "([BIB)V", sig := { parameters := [(.array .byte), .int, .byte], returnType := none }, accessFlags := 0, code := some k7c6 }
def k7c7 : Code := { maxStack := 4, maxLocals := 6, code := jdk_42_method_149_code, exceptionTable := #[], attributes := #[] }
def k7m7 : Method := { name := "<init>", desc := "([CIILjava/lang/Void;)V", sig := { parameters := [(.array .char), .int, .int, (.object "java/lang/Void")], returnType := none }, accessFlags := 2, code := some k7c7 }
def k7c8 : Code := { maxStack := 5, maxLocals := 5, code := jdk_42_method_150_code, exceptionTable := #[], attributes := #[] }
def k7m8 : Method := { name := "<init>", desc := "(Ljava/lang/AbstractStringBuilder;Ljava/lang/Void;)V", sig := { parameters := [(.object "java/lang/AbstractStringBuilder"), (.object "java/lang/Void")], returnType := none }, accessFlags := 0, code := some k7c8 }
def k7c9 : Code := { maxStack := 2, maxLocals := 3, code := jdk_42_method_151_code, exceptionTable := #[], attributes := #[] }
def k7m9 : Method := { name := "<init>", desc := "([BB)V", sig := { parameters := [(.array .byte), .byte], returnType := none }, accessFlags := 0, code := some k7c9 }
def k7c10 : Code := { maxStack := 1, maxLocals := 1, code := jdk_42_method_152_code, exceptionTable := #[], attributes := #[] }
def k7m10 : Method := { name := "coder", desc := "()B", sig := { parameters := [], returnType := some .byte }, accessFlags := 0, code := some k7c10 }
def k7c11 : Code := { maxStack := 1, maxLocals := 1, code := jdk_42_method_154_code, exceptionTable := #[], attributes := #[] }
def k7m11 : Method := { name := "isLatin1", desc := "()Z", sig := { parameters := [], returnType := some .boolean }, accessFlags := 0, code := some k7c11 }
def k7c12 : Code := { maxStack := 3, maxLocals := 2, code := jdk_42_method_155_code, exceptionTable := #[], attributes := #[] }
def k7m12 : Method := { name := "checkIndex", desc := "(II)V", sig := { parameters := [.int, .int], returnType := none }, accessFlags := 8, code := some k7c12 }
/-- java/lang/String -/
def k7 : Class := { plain "java/lang/String" (some 0) with
  accessFlags := 49
  interfaces := #[2, 3, 4, 5, 6]
  cf := some (fileOf pool7 10 #[.nestMembers #[1103]] #[{ accessFlags := 1, nameIndex := 5, descriptorIndex := 6, attributes := #[] }, { accessFlags := 1, nameIndex := 5, descriptorIndex := 1010, attributes := #[] }, { accessFlags := 1, nameIndex := 5, descriptorIndex := 1233, attributes := #[] }, { accessFlags := 1, nameIndex := 507, descriptorIndex := 334, attributes := #[] }, { accessFlags := 1, nameIndex := 497, descriptorIndex := 427, attributes := #[] }, { accessFlags := 9, nameIndex := 782, descriptorIndex := 783, attributes := #[] }, { accessFlags := 0, nameIndex := 532, descriptorIndex := 821, attributes := #[] }, { accessFlags := 2, nameIndex := 5, descriptorIndex := 29, attributes := #[] }, { accessFlags := 0, nameIndex := 5, descriptorIndex := 491, attributes := #[] }, { accessFlags := 0, nameIndex := 5, descriptorIndex := 211, attributes := #[] }, { accessFlags := 0, nameIndex := 17, descriptorIndex := 337, attributes := #[] }, { accessFlags := 0, nameIndex := 494, descriptorIndex := 142, attributes := #[] }, { accessFlags := 8, nameIndex := 501, descriptorIndex := 391, attributes := #[] }] 49 2 #[1106, 1108, 575, 1110, 1112] #[{ accessFlags := 18, nameIndex := 13, descriptorIndex := 14, attributes := #[] }, { accessFlags := 18, nameIndex := 17, descriptorIndex := 18, attributes := #[] }, { accessFlags := 2, nameIndex := 21, descriptorIndex := 22, attributes := #[] }, { accessFlags := 2, nameIndex := 25, descriptorIndex := 26, attributes := #[] }, { accessFlags := 26, nameIndex := 1116, descriptorIndex := 1117, attributes := #[] }, { accessFlags := 24, nameIndex := 40, descriptorIndex := 26, attributes := #[] }, { accessFlags := 26, nameIndex := 1101, descriptorIndex := 1102, attributes := #[] }, { accessFlags := 26, nameIndex := 1121, descriptorIndex := 1122, attributes := #[] }, { accessFlags := 25, nameIndex := 599, descriptorIndex := 600, attributes := #[] }, { accessFlags := 24, nameIndex := 1125, descriptorIndex := 18, attributes := #[] }, { accessFlags := 24, nameIndex := 1127, descriptorIndex := 18, attributes := #[] }])
  fields := #[{ name := "value", type := (.array .byte), accessFlags := 18, slot := 0, constantValue := 0 }, { name := "coder", type := .byte, accessFlags := 18, slot := 1, constantValue := 0 }, { name := "hash", type := .int, accessFlags := 2, slot := 2, constantValue := 0 }, { name := "hashIsZero", type := .boolean, accessFlags := 2, slot := 3, constantValue := 0 }, { name := "serialVersionUID", type := .long, accessFlags := 26, slot := 0, constantValue := 0 }, { name := "COMPACT_STRINGS", type := .boolean, accessFlags := 24, slot := 1, constantValue := 0 }, { name := "serialPersistentFields", type := (.array (.object "java/io/ObjectStreamField")), accessFlags := 26, slot := 2, constantValue := 0 }, { name := "REPL", type := .char, accessFlags := 26, slot := 3, constantValue := 0 }, { name := "CASE_INSENSITIVE_ORDER", type := (.object "java/util/Comparator"), accessFlags := 25, slot := 4, constantValue := 0 }, { name := "LATIN1", type := .byte, accessFlags := 24, slot := 5, constantValue := 0 }, { name := "UTF16", type := .byte, accessFlags := 24, slot := 6, constantValue := 0 }]
  methods := #[k7m0, k7m1, k7m2, k7m3, k7m4, k7m5, k7m6, k7m7, k7m8, k7m9, k7m10, k7m11, k7m12]
  instanceTypes := #[(.array .byte), .byte, .int, .boolean]
  staticTypes := #[.long, .boolean, (.array (.object "java/io/ObjectStreamField")), .char, (.object "java/util/Comparator"), .byte, .byte]
  resolved := Array.replicate 1451 none
  statics := some 0 }

def pool8 : Array CpInfo := pool [(1, .methodref 2 3), (0, .class_ 4), (0, .nameAndType 5 6), (0, u "java/lang/Object"), (0, u "<init>"), (0, u "()V"), (0, .fieldref 8 9), (0, .class_ 10), (0, .nameAndType 11 12), (0, u "java/lang/Throwable"), (0, u "cause"), (0, u "Ljava/lang/Throwable;"), (0, .fieldref 8 14), (0, .nameAndType 15 16), (0, u "UNASSIGNED_STACK"), (0, u "[Ljava/lang/StackTraceElement;"), (0, .fieldref 8 18), (0, .nameAndType 19 16), (0, u "stackTrace"), (0, .fieldref 8 21), (0, .nameAndType 22 23), (0, u "SUPPRESSED_SENTINEL"), (0, u "Ljava/util/List;"), (0, .fieldref 8 25), (0, .nameAndType 26 23), (0, u "suppressedExceptions"), (0, .methodref 8 28), (0, .nameAndType 29 30), (0, u "fillInStackTrace"), (0, u "()Ljava/lang/Throwable;"), (0, .fieldref 8 32), (0, .nameAndType 33 34), (0, u "detailMessage"), (0, u "Ljava/lang/String;"), (3, u "()Ljava/lang/String;"), (2, u "getMessage"), (51, .class_ 94), (0, u "java/lang/Throwable$WrappedPrintStream"), (6, .class_ 103), (1, u "java/lang/Throwable$PrintStreamOrWriter"), (61, u "$assertionsDisabled"), (0, u "Z"), (26, .class_ 194), (0, u "java/lang/Throwable$WrappedPrintWriter"), (3, .fieldref 8 199), (0, .nameAndType 200 201), (0, u "backtrace"), (0, u "Ljava/lang/Object;"), (0, .methodref 8 203), (0, .nameAndType 29 204), (0, u "(I)Ljava/lang/Throwable;"), (6, u "depth"), (0, u "I"), (10, u "(Ljava/lang/String;)V"), (45, .class_ 271), (1, u "java/lang/Throwable$SentinelHolder"), (32, u "EMPTY_THROWABLE_ARRAY"), (0, u "[Ljava/lang/Throwable;"), (12, .class_ 319), (0, u "java/io/Serializable"), (0, u "serialVersionUID"), (0, u "J"), (5, u "NULL_CAUSE_MESSAGE"), (0, u "SELF_SUPPRESSION_MESSAGE"), (0, u "CAUSE_CAPTION"), (0, u "SUPPRESSED_CAPTION")] 73

def k8c0 : Code := { maxStack := 2, maxLocals := 1, code := jdk_78_method_1_code, exceptionTable := #[], attributes := #[] }
def k8m0 : Method := { name := "<init>", desc := "()V", sig := { parameters := [], returnType := none }, accessFlags := 1, code := some k8c0 }
def k8c1 : Code := { maxStack := 2, maxLocals := 2, code := jdk_78_method_2_code, exceptionTable := #[], attributes := #[] }
def k8m1 : Method := { name := "<init>", desc := "(Ljava/lang/String;)V", sig := { parameters := [(.object "java/lang/String")], returnType := none }, accessFlags := 1, code := some k8c1 }
def k8c2 : Code := { maxStack := 1, maxLocals := 1, code := jdk_78_method_6_code, exceptionTable := #[], attributes := #[] }
def k8m2 : Method := { name := "getMessage", desc := "()Ljava/lang/String;", sig := { parameters := [], returnType := some (.object "java/lang/String") }, accessFlags := 1, code := some k8c2 }
def k8c3 : Code := { maxStack := 2, maxLocals := 1, code := jdk_78_method_18_code, exceptionTable := #[], attributes := #[] }
def k8m3 : Method := { name := "fillInStackTrace", desc := "()Ljava/lang/Throwable;", sig := { parameters := [], returnType := some (.object "java/lang/Throwable") }, accessFlags := 33, code := some k8c3 }
def k8m4 : Method := { name := "fillInStackTrace", desc := "(I)Ljava/lang/Throwable;", sig := { parameters := [.int], returnType := some (.object "java/lang/Throwable") }, accessFlags := 258, code := none }
/-- java/lang/Throwable -/
def k8 : Class := { plain "java/lang/Throwable" (some 0) with
  accessFlags := 33
  interfaces := #[2]
  cf := some (fileOf pool8 8 #[.nestMembers #[193, 93, 101, 269]] #[{ accessFlags := 1, nameIndex := 5, descriptorIndex := 6, attributes := #[] }, { accessFlags := 1, nameIndex := 5, descriptorIndex := 223, attributes := #[] }, { accessFlags := 1, nameIndex := 41, descriptorIndex := 38, attributes := #[] }, { accessFlags := 33, nameIndex := 29, descriptorIndex := 30, attributes := #[] }, { accessFlags := 258, nameIndex := 29, descriptorIndex := 204, attributes := #[] }] 33 2 #[318] #[{ accessFlags := 26, nameIndex := 320, descriptorIndex := 321, attributes := #[] }, { accessFlags := 130, nameIndex := 200, descriptorIndex := 201, attributes := #[] }, { accessFlags := 2, nameIndex := 33, descriptorIndex := 34, attributes := #[] }, { accessFlags := 26, nameIndex := 15, descriptorIndex := 16, attributes := #[] }, { accessFlags := 2, nameIndex := 11, descriptorIndex := 12, attributes := #[] }, { accessFlags := 2, nameIndex := 19, descriptorIndex := 16, attributes := #[] }, { accessFlags := 130, nameIndex := 211, descriptorIndex := 212, attributes := #[] }, { accessFlags := 26, nameIndex := 22, descriptorIndex := 23, attributes := #[] }, { accessFlags := 2, nameIndex := 26, descriptorIndex := 23, attributes := #[] }, { accessFlags := 26, nameIndex := 327, descriptorIndex := 34, attributes := #[] }, { accessFlags := 26, nameIndex := 328, descriptorIndex := 34, attributes := #[] }, { accessFlags := 26, nameIndex := 329, descriptorIndex := 34, attributes := #[] }, { accessFlags := 26, nameIndex := 330, descriptorIndex := 34, attributes := #[] }, { accessFlags := 26, nameIndex := 304, descriptorIndex := 305, attributes := #[] }, { accessFlags := 4120, nameIndex := 165, descriptorIndex := 166, attributes := #[] }])
  fields := #[{ name := "serialVersionUID", type := .long, accessFlags := 26, slot := 0, constantValue := 0 }, { name := "backtrace", type := (.object "java/lang/Object"), accessFlags := 130, slot := 0, constantValue := 0 }, { name := "detailMessage", type := (.object "java/lang/String"), accessFlags := 2, slot := 1, constantValue := 0 }, { name := "UNASSIGNED_STACK", type := (.array (.object "java/lang/StackTraceElement")), accessFlags := 26, slot := 1, constantValue := 0 }, { name := "cause", type := (.object "java/lang/Throwable"), accessFlags := 2, slot := 2, constantValue := 0 }, { name := "stackTrace", type := (.array (.object "java/lang/StackTraceElement")), accessFlags := 2, slot := 3, constantValue := 0 }, { name := "depth", type := .int, accessFlags := 130, slot := 4, constantValue := 0 }, { name := "SUPPRESSED_SENTINEL", type := (.object "java/util/List"), accessFlags := 26, slot := 2, constantValue := 0 }, { name := "suppressedExceptions", type := (.object "java/util/List"), accessFlags := 2, slot := 5, constantValue := 0 }, { name := "NULL_CAUSE_MESSAGE", type := (.object "java/lang/String"), accessFlags := 26, slot := 3, constantValue := 0 }, { name := "SELF_SUPPRESSION_MESSAGE", type := (.object "java/lang/String"), accessFlags := 26, slot := 4, constantValue := 0 }, { name := "CAUSE_CAPTION", type := (.object "java/lang/String"), accessFlags := 26, slot := 5, constantValue := 0 }, { name := "SUPPRESSED_CAPTION", type := (.object "java/lang/String"), accessFlags := 26, slot := 6, constantValue := 0 }, { name := "EMPTY_THROWABLE_ARRAY", type := (.array (.object "java/lang/Throwable")), accessFlags := 26, slot := 7, constantValue := 0 }, { name := "$assertionsDisabled", type := .boolean, accessFlags := 4120, slot := 8, constantValue := 0 }]
  methods := #[k8m0, k8m1, k8m2, k8m3, k8m4]
  instanceTypes := #[(.object "java/lang/Object"), (.object "java/lang/String"), (.object "java/lang/Throwable"), (.array (.object "java/lang/StackTraceElement")), .int, (.object "java/util/List")]
  staticTypes := #[.long, (.array (.object "java/lang/StackTraceElement")), (.object "java/util/List"), (.object "java/lang/String"), (.object "java/lang/String"), (.object "java/lang/String"), (.object "java/lang/String"), (.array (.object "java/lang/Throwable")), .boolean]
  resolved := Array.replicate 404 none
  statics := some 1 }

def pool9 : Array CpInfo := pool [(2, .class_ 4), (1, u "java/lang/Throwable"), (0, u "<init>"), (0, u "()V"), (0, .methodref 2 8), (0, .nameAndType 5 9), (0, u "(Ljava/lang/String;)V"), (9, .class_ 20), (0, u "java/lang/Exception"), (0, u "serialVersionUID"), (0, u "J")] 17

def k9m0 : Method := { name := "<init>", desc := "()V", sig := { parameters := [], returnType := none }, accessFlags := 1, code := none }
def k9c1 : Code := { maxStack := 2, maxLocals := 2, code := jdk_59_method_2_code, exceptionTable := #[], attributes := #[] }
def k9m1 : Method := { name := "<init>", desc := "(Ljava/lang/String;)V", sig := { parameters := [(.object "java/lang/String")], returnType := none }, accessFlags := 1, code := some k9c1 }
/-- java/lang/Exception -/
def k9 : Class := { plain "java/lang/Exception" (some 8) with
  accessFlags := 33
  interfaces := #[]
  cf := some (fileOf pool9 19 #[] #[{ accessFlags := 1, nameIndex := 5, descriptorIndex := 6, attributes := #[] }, { accessFlags := 1, nameIndex := 5, descriptorIndex := 9, attributes := #[] }] 33 2 #[] #[{ accessFlags := 24, nameIndex := 21, descriptorIndex := 22, attributes := #[] }])
  fields := #[{ name := "serialVersionUID", type := .long, accessFlags := 24, slot := 0, constantValue := 0 }]
  methods := #[k9m0, k9m1]
  instanceTypes := #[(.object "java/lang/Object"), (.object "java/lang/String"), (.object "java/lang/Throwable"), (.array (.object "java/lang/StackTraceElement")), .int, (.object "java/util/List")]
  staticTypes := #[.long]
  resolved := Array.replicate 40 none
  statics := none }

def pool10 : Array CpInfo := pool [(2, .class_ 4), (1, u "java/lang/Exception"), (0, u "<init>"), (0, u "()V"), (0, .methodref 2 8), (0, .nameAndType 5 9), (0, u "(Ljava/lang/String;)V"), (9, .class_ 20), (0, u "java/lang/RuntimeException"), (0, u "serialVersionUID"), (0, u "J")] 17

def k10m0 : Method := { name := "<init>", desc := "()V", sig := { parameters := [], returnType := none }, accessFlags := 1, code := none }
def k10c1 : Code := { maxStack := 2, maxLocals := 2, code := jdk_58_method_2_code, exceptionTable := #[], attributes := #[] }
def k10m1 : Method := { name := "<init>", desc := "(Ljava/lang/String;)V", sig := { parameters := [(.object "java/lang/String")], returnType := none }, accessFlags := 1, code := some k10c1 }
/-- java/lang/RuntimeException -/
def k10 : Class := { plain "java/lang/RuntimeException" (some 9) with
  accessFlags := 33
  interfaces := #[]
  cf := some (fileOf pool10 19 #[] #[{ accessFlags := 1, nameIndex := 5, descriptorIndex := 6, attributes := #[] }, { accessFlags := 1, nameIndex := 5, descriptorIndex := 9, attributes := #[] }] 33 2 #[] #[{ accessFlags := 24, nameIndex := 21, descriptorIndex := 22, attributes := #[] }])
  fields := #[{ name := "serialVersionUID", type := .long, accessFlags := 24, slot := 0, constantValue := 0 }]
  methods := #[k10m0, k10m1]
  instanceTypes := #[(.object "java/lang/Object"), (.object "java/lang/String"), (.object "java/lang/Throwable"), (.array (.object "java/lang/StackTraceElement")), .int, (.object "java/util/List")]
  staticTypes := #[.long]
  resolved := Array.replicate 40 none
  statics := none }

def pool11 : Array CpInfo := pool [(6, u "()Ljava/lang/String;"), (0, .methodref 8 9), (0, .class_ 10), (0, .nameAndType 11 12), (0, u "com/example/inflow/inflow/model/DeploymentException"), (0, u "message"), (0, u "(Ljava/lang/String;Ljava/lang/String;)Ljava/lang/String;"), (0, .methodref 14 15), (0, .class_ 16), (0, .nameAndType 17 18), (0, u "java/lang/RuntimeException"), (0, u "<init>"), (0, u "(Ljava/lang/String;)V"), (2, .nameAndType 23 6), (1, u "toString"), (0, .methodref 8 15), (0, .class_ 26), (0, u "java/lang/StringBuilder"), (0, .methodref 25 28), (0, .nameAndType 17 29), (0, u "()V"), (4, .methodref 25 35), (0, .nameAndType 36 37), (0, u "append"), (0, u "(Ljava/lang/String;)Ljava/lang/StringBuilder;"), (2, .methodref 25 21), (29, .string 71), (0, u "Cannot deploy "), (0, .string 73), (0, u ": "), (0, u "serialVersionUID"), (0, u "J"), (8, u "forDescriptor"), (0, u "(Ljava/lang/String;Ljava/lang/String;)Lcom/example/inflow/inflow/model/DeploymentException;")] 16

def k11c0 : Code := { maxStack := 2, maxLocals := 2, code := prog_8_method_3_code, exceptionTable := #[], attributes := #[] }
def k11m0 : Method := { name := "<init>", desc := "(Ljava/lang/String;)V", sig := { parameters := [(.object "java/lang/String")], returnType := none }, accessFlags := 2, code := some k11c0 }
def k11c1 : Code := { maxStack := 4, maxLocals := 2, code := prog_8_method_4_code, exceptionTable := #[], attributes := #[] }
def k11m1 : Method := { name := "forDescriptor", desc := "(Ljava/lang/String;Ljava/lang/String;)Lcom/example/inflow/inflow/model/DeploymentException;", sig := { parameters := [(.object "java/lang/String"), (.object "java/lang/String")], returnType := some (.object "com/example/inflow/inflow/model/DeploymentException") }, accessFlags := 9, code := some k11c1 }
def k11c2 : Code := { maxStack := 2, maxLocals := 2, code := prog_8_method_11_code, exceptionTable := #[], attributes := #[] }
def k11m2 : Method := { name := "message", desc := "(Ljava/lang/String;Ljava/lang/String;)Ljava/lang/String;", sig := { parameters := [(.object "java/lang/String"), (.object "java/lang/String")], returnType := some (.object "java/lang/String") }, accessFlags := 10, code := some k11c2 }
/-- com/example/inflow/inflow/model/DeploymentException -/
def k11 : Class := { plain "com/example/inflow/inflow/model/DeploymentException" (some 10) with
  accessFlags := 33
  interfaces := #[]
  cf := some (fileOf pool11 8 #[] #[{ accessFlags := 2, nameIndex := 17, descriptorIndex := 18, attributes := #[] }, { accessFlags := 9, nameIndex := 84, descriptorIndex := 85, attributes := #[] }, { accessFlags := 10, nameIndex := 11, descriptorIndex := 12, attributes := #[] }] 33 14 #[] #[{ accessFlags := 26, nameIndex := 74, descriptorIndex := 75, attributes := #[] }])
  fields := #[{ name := "serialVersionUID", type := .long, accessFlags := 26, slot := 0, constantValue := 0 }]
  methods := #[k11m0, k11m1, k11m2]
  instanceTypes := #[(.object "java/lang/Object"), (.object "java/lang/String"), (.object "java/lang/Throwable"), (.array (.object "java/lang/StackTraceElement")), .int, (.object "java/util/List")]
  staticTypes := #[.long]
  resolved := Array.replicate 102 none
  statics := none }

def pool12 : Array CpInfo := pool [(1, .class_ 2), (0, u "java/lang/Appendable"), (0, .class_ 4), (0, u "java/lang/Object")] 9

/-- java/lang/Appendable -/
def k12 : Class := { plain "java/lang/Appendable" (some 0) with
  accessFlags := 1537
  interfaces := #[]
  cf := some (fileOf pool12 1 #[] #[] 1537 3 #[] #[])
  fields := #[]
  methods := #[]
  instanceTypes := #[]
  staticTypes := #[]
  resolved := Array.replicate 14 none
  statics := none }

def pool13 : Array CpInfo := pool [(1, .class_ 2), (0, u "java/lang/String"), (0, .methodref 4 5), (0, .class_ 6), (0, .nameAndType 7 8), (0, u "java/lang/Object"), (0, u "<init>"), (0, u "()V"), (1, .class_ 12), (1, u "java/lang/AbstractStringBuilder"), (0, u "EMPTYVALUE"), (0, u "[B"), (0, .fieldref 10 16), (0, .nameAndType 17 14), (0, u "value"), (0, .fieldref 1 19), (0, .nameAndType 20 21), (0, u "COMPACT_STRINGS"), (0, u "Z"), (0, .fieldref 10 23), (0, .nameAndType 24 25), (0, u "coder"), (0, u "B"), (6, .methodref 1 33), (0, .nameAndType 34 35), (0, u "length"), (0, u "()I"), (3, .integer 2147483647), (0, .methodref 1 41), (0, .nameAndType 24 42), (0, u "()B"), (2, u "append"), (0, u "(Ljava/lang/String;)Ljava/lang/AbstractStringBuilder;"), (1, .class_ 49), (0, u "java/lang/CharSequence"), (19, u "(Ljava/lang/String;)V"), (5, u "maybeLatin1"), (3, .fieldref 10 80), (0, .nameAndType 81 82), (0, u "count"), (0, u "I"), (2, u "isLatin1"), (0, u "()Z"), (13, .methodref 10 101), (0, .nameAndType 102 103), (0, u "ensureCapacityInternal"), (0, u "(I)V"), (0, .methodref 10 105), (0, .nameAndType 106 107), (0, u "newCapacity"), (0, u "(I)I"), (0, .methodref 109 110), (0, .class_ 111), (0, .nameAndType 112 113), (0, u "java/util/Arrays"), (0, u "copyOf"), (0, u "([BI)[B"), (0, .methodref 115 116), (0, .class_ 117), (0, .nameAndType 118 119), (0, u "jdk/internal/util/ArraysSupport"), (0, u "newLength"), (0, u "(III)I"), (88, .methodref 10 209), (0, .nameAndType 210 211), (0, u "putStringAt"), (0, u "(ILjava/lang/String;)V"), (5, u "inflateIfNeededFor"), (2, .nameAndType 221 222), (0, u "getBytes"), (0, u "([BIB)V"), (174, .methodref 10 398), (0, .nameAndType 217 69), (0, .methodref 1 220), (3, u "()[B"), (40, .class_ 445), (0, u "java/lang/Appendable"), (106, u "getValue")] 56

def k13m0 : Method := { name := "<init>", desc := "()V", sig := { parameters := [], returnType := none }, accessFlags := 0, code := none }
def k13c1 : Code := { maxStack := 2, maxLocals := 2, code := jdk_68_method_2_code, exceptionTable := #[], attributes := #[] }
def k13m1 : Method := { name := "<init>", desc := "(I)V", sig := { parameters := [.int], returnType := none }, accessFlags := 0, code := some k13c1 }
def k13c2 : Code := { maxStack := 1, maxLocals := 1, code := jdk_68_method_6_code, exceptionTable := #[], attributes := #[] }
def k13m2 : Method := { name := "length", desc := "()I", sig := { parameters := [], returnType := some .int }, accessFlags := 1, code := some k13c2 }
def k13c3 : Code := { maxStack := 4, maxLocals := 3, code := jdk_68_method_9_code, exceptionTable := #[], attributes := #[] }
def k13m3 : Method := { name := "ensureCapacityInternal", desc := "(I)V", sig := { parameters := [.int], returnType := none }, accessFlags := 2, code := some k13c3 }
def k13c4 : Code := { maxStack := 5, maxLocals := 6, code := jdk_68_method_10_code, exceptionTable := #[], attributes := #[] }
def k13m4 : Method := { name := "newCapacity", desc := "(I)I", sig := { parameters := [.int], returnType := some .int }, accessFlags := 2, code := some k13c4 }
def k13c5 : Code := { maxStack := 3, maxLocals := 3, code := jdk_68_method_22_code, exceptionTable := #[], attributes := #[] }
def k13m5 : Method := { name := "append", desc := "(Ljava/lang/String;)Ljava/lang/AbstractStringBuilder;", sig := { parameters := [(.object "java/lang/String")], returnType := some (.object "java/lang/AbstractStringBuilder") }, accessFlags := 1, code := some k13c5 }
def k13c6 : Code := { maxStack := 1, maxLocals := 1, code := jdk_68_method_64_code, exceptionTable := #[], attributes := #[] }
def k13m6 : Method := { name := "getValue", desc := "()[B", sig := { parameters := [], returnType := some (.array .byte) }, accessFlags := 16, code := some k13c6 }
def k13c7 : Code := { maxStack := 1, maxLocals := 1, code := jdk_68_method_68_code, exceptionTable := #[], attributes := #[] }
def k13m7 : Method := { name := "isLatin1", desc := "()Z", sig := { parameters := [], returnType := some .boolean }, accessFlags := 16, code := some k13c7 }
def k13c8 : Code := { maxStack := 2, maxLocals := 2, code := jdk_68_method_71_code, exceptionTable := #[], attributes := #[] }
def k13m8 : Method := { name := "inflateIfNeededFor", desc := "(Ljava/lang/String;)V", sig := { parameters := [(.object "java/lang/String")], returnType := none }, accessFlags := 2, code := some k13c8 }
def k13c9 : Code := { maxStack := 4, maxLocals := 3, code := jdk_68_method_73_code, exceptionTable := #[], attributes := #[] }
def k13m9 : Method := { name := "putStringAt", desc := "(ILjava/lang/String;)V", sig := { parameters := [.int, (.object "java/lang/String")], returnType := none }, accessFlags := 2, code := some k13c9 }
/-- java/lang/AbstractStringBuilder -/
def k13 : Class := { plain "java/lang/AbstractStringBuilder" (some 0) with
  accessFlags := 1056
  interfaces := #[12, 4]
  cf := some (fileOf pool13 10 #[] #[{ accessFlags := 0, nameIndex := 7, descriptorIndex := 8, attributes := #[] }, { accessFlags := 0, nameIndex := 7, descriptorIndex := 103, attributes := #[] }, { accessFlags := 1, nameIndex := 34, descriptorIndex := 35, attributes := #[] }, { accessFlags := 2, nameIndex := 102, descriptorIndex := 103, attributes := #[] }, { accessFlags := 2, nameIndex := 106, descriptorIndex := 107, attributes := #[] }, { accessFlags := 1, nameIndex := 45, descriptorIndex := 46, attributes := #[] }, { accessFlags := 16, nameIndex := 552, descriptorIndex := 403, attributes := #[] }, { accessFlags := 16, nameIndex := 85, descriptorIndex := 86, attributes := #[] }, { accessFlags := 2, nameIndex := 217, descriptorIndex := 69, attributes := #[] }, { accessFlags := 2, nameIndex := 210, descriptorIndex := 211, attributes := #[] }] 1056 4 #[444, 48] #[{ accessFlags := 0, nameIndex := 17, descriptorIndex := 14, attributes := #[] }, { accessFlags := 0, nameIndex := 24, descriptorIndex := 25, attributes := #[] }, { accessFlags := 0, nameIndex := 75, descriptorIndex := 21, attributes := #[] }, { accessFlags := 0, nameIndex := 81, descriptorIndex := 82, attributes := #[] }, { accessFlags := 26, nameIndex := 13, descriptorIndex := 14, attributes := #[] }])
  fields := #[{ name := "value", type := (.array .byte), accessFlags := 0, slot := 0, constantValue := 0 }, { name := "coder", type := .byte, accessFlags := 0, slot := 1, constantValue := 0 }, { name := "maybeLatin1", type := .boolean, accessFlags := 0, slot := 2, constantValue := 0 }, { name := "count", type := .int, accessFlags := 0, slot := 3, constantValue := 0 }, { name := "EMPTYVALUE", type := (.array .byte), accessFlags := 26, slot := 0, constantValue := 0 }]
  methods := #[k13m0, k13m1, k13m2, k13m3, k13m4, k13m5, k13m6, k13m7, k13m8, k13m9]
  instanceTypes := #[(.array .byte), .byte, .boolean, .int]
  staticTypes := #[(.array .byte)]
  resolved := Array.replicate 609 none
  statics := none }

def pool14 : Array CpInfo := pool [(1, .methodref 2 3), (0, .class_ 4), (0, .nameAndType 5 6), (0, u "java/lang/AbstractStringBuilder"), (0, u "<init>"), (0, u "(I)V"), (11, .class_ 20), (1, u "java/lang/String"), (3, .class_ 26), (1, u "java/lang/StringBuilder"), (0, u "append"), (0, u "(Ljava/lang/String;)Ljava/lang/StringBuilder;"), (0, .methodref 2 30), (0, .nameAndType 27 31), (0, u "(Ljava/lang/String;)Ljava/lang/AbstractStringBuilder;"), (105, .methodref 18 138), (0, .nameAndType 5 139), (0, u "(Ljava/lang/StringBuilder;)V"), (5, u "()V"), (10, u "()I"), (186, .methodref 2 344), (0, .nameAndType 345 156), (0, u "length"), (3, .class_ 350), (0, u "java/lang/Appendable"), (0, .class_ 352), (0, u "java/io/Serializable"), (0, .class_ 354), (0, u "java/lang/Comparable"), (0, .class_ 356), (0, u "java/lang/CharSequence"), (0, u "serialVersionUID"), (0, u "J"), (40, u "toString"), (0, u "()Ljava/lang/String;")] 21

def k14c0 : Code := { maxStack := 2, maxLocals := 1, code := jdk_67_method_1_code, exceptionTable := #[], attributes := #[] }
def k14m0 : Method := { name := "<init>", desc := "()V", sig := { parameters := [], returnType := none }, accessFlags := 1, code := some k14c0 }
def k14c1 : Code := { maxStack := 2, maxLocals := 2, code := jdk_67_method_7_code, exceptionTable := #[], attributes := #[] }
def k14m1 : Method := { name := "append", desc := "(Ljava/lang/String;)Ljava/lang/StringBuilder;", sig := { parameters := [(.object "java/lang/String")], returnType := some (.object "java/lang/StringBuilder") }, accessFlags := 1, code := some k14c1 }
def k14c2 : Code := { maxStack := 3, maxLocals := 1, code := jdk_67_method_42_code, exceptionTable := #[], attributes := #[] }
def k14m2 : Method := { name := "toString", desc := "()Ljava/lang/String;", sig := { parameters := [], returnType := some (.object "java/lang/String") }, accessFlags := 1, code := some k14c2 }
def k14c3 : Code := { maxStack := 1, maxLocals := 1, code := jdk_67_method_93_code, exceptionTable := #[], attributes := #[] }
def k14m3 : Method := { name := "length", desc := "()I", sig := { parameters := [], returnType := some .int }, accessFlags := 4161, code := some k14c3 }
/-- java/lang/StringBuilder -/
def k14 : Class := { plain "java/lang/StringBuilder" (some 13) with
  accessFlags := 49
  interfaces := #[12, 2, 3, 4]
  cf := some (fileOf pool14 24 #[] #[{ accessFlags := 1, nameIndex := 5, descriptorIndex := 145, attributes := #[] }, { accessFlags := 1, nameIndex := 27, descriptorIndex := 28, attributes := #[] }, { accessFlags := 1, nameIndex := 399, descriptorIndex := 400, attributes := #[] }, { accessFlags := 4161, nameIndex := 345, descriptorIndex := 156, attributes := #[] }] 49 2 #[349, 351, 353, 355] #[{ accessFlags := 24, nameIndex := 357, descriptorIndex := 358, attributes := #[] }])
  fields := #[{ name := "serialVersionUID", type := .long, accessFlags := 24, slot := 0, constantValue := 0 }]
  methods := #[k14m0, k14m1, k14m2, k14m3]
  instanceTypes := #[(.array .byte), .byte, .boolean, .int]
  staticTypes := #[.long]
  resolved := Array.replicate 422 none
  statics := none }

def pool15 : Array CpInfo := pool [(2, .class_ 4), (1, u "java/lang/Object"), (0, u "<init>"), (0, u "()V"), (1, .class_ 10), (1, u "java/lang/System"), (0, u "allowSecurityManager"), (0, u "I"), (16, u "cons"), (0, u "Ljava/io/Console;"), (77, .class_ 110), (1, u "java/lang/System$CallersHolder"), (43, u "initialErrStream"), (0, u "Ljava/io/PrintStream;"), (19, u "security"), (0, u "Ljava/lang/SecurityManager;"), (31, .class_ 209), (0, u "java/lang/System$1"), (7, u "props"), (0, u "Ljava/util/Properties;"), (2, u "lineSeparator"), (0, u "Ljava/lang/String;"), (96, .class_ 321), (1, u "java/lang/System$LoggerFinder"), (5, .class_ 328), (0, u "java/lang/System$Logger"), (67, u "err"), (2, u "out"), (91, u "notSupportedJnuEncoding"), (15, u "in"), (17, u "initialIn"), (0, u "Ljava/io/InputStream;"), (35, u "bootLayer"), (0, u "Ljava/lang/ModuleLayer;"), (99, .class_ 664), (0, u "java/lang/System$2"), (9, u "NEVER"), (2, u "MAYBE"), (49, u "arraycopy"), (0, u "(Ljava/lang/Object;ILjava/lang/Object;II)V"), (72, .class_ 802), (0, u "java/lang/System$Logger$Level")] 31

def k15m0 : Method := { name := "<init>", desc := "()V", sig := { parameters := [], returnType := none }, accessFlags := 2, code := none }
def k15m1 : Method := { name := "arraycopy", desc := "(Ljava/lang/Object;ILjava/lang/Object;II)V", sig := { parameters := [(.object "java/lang/Object"), .int, (.object "java/lang/Object"), .int, .int], returnType := none }, accessFlags := 265, code := none }
/-- java/lang/System -/
def k15 : Class := { plain "java/lang/System" (some 0) with
  accessFlags := 49
  interfaces := #[]
  cf := some (fileOf pool15 8 #[.nestMembers #[319, 327, 801, 108, 663, 208]] #[{ accessFlags := 2, nameIndex := 5, descriptorIndex := 6, attributes := #[] }, { accessFlags := 265, nameIndex := 727, descriptorIndex := 728, attributes := #[] }] 49 2 #[] #[{ accessFlags := 25, nameIndex := 507, descriptorIndex := 526, attributes := #[] }, { accessFlags := 25, nameIndex := 399, descriptorIndex := 155, attributes := #[] }, { accessFlags := 25, nameIndex := 396, descriptorIndex := 155, attributes := #[] }, { accessFlags := 10, nameIndex := 525, descriptorIndex := 526, attributes := #[] }, { accessFlags := 26, nameIndex := 674, descriptorIndex := 12, attributes := #[] }, { accessFlags := 26, nameIndex := 677, descriptorIndex := 12, attributes := #[] }, { accessFlags := 10, nameIndex := 11, descriptorIndex := 12, attributes := #[] }, { accessFlags := 74, nameIndex := 175, descriptorIndex := 176, attributes := #[] }, { accessFlags := 10, nameIndex := 491, descriptorIndex := 222, attributes := #[] }, { accessFlags := 74, nameIndex := 29, descriptorIndex := 30, attributes := #[] }, { accessFlags := 74, nameIndex := 154, descriptorIndex := 155, attributes := #[] }, { accessFlags := 10, nameIndex := 217, descriptorIndex := 218, attributes := #[] }, { accessFlags := 10, nameIndex := 221, descriptorIndex := 222, attributes := #[] }, { accessFlags := 8, nameIndex := 562, descriptorIndex := 563, attributes := #[] }])
  fields := #[{ name := "in", type := (.object "java/io/InputStream"), accessFlags := 25, slot := 0, constantValue := 0 }, { name := "out", type := (.object "java/io/PrintStream"), accessFlags := 25, slot := 1, constantValue := 0 }, { name := "err", type := (.object "java/io/PrintStream"), accessFlags := 25, slot := 2, constantValue := 0 }, { name := "initialIn", type := (.object "java/io/InputStream"), accessFlags := 10, slot := 3, constantValue := 0 }, { name := "NEVER", type := .int, accessFlags := 26, slot := 4, constantValue := 0 }, { name := "MAYBE", type := .int, accessFlags := 26, slot := 5, constantValue := 0 }, { name := "allowSecurityManager", type := .int, accessFlags := 10, slot := 6, constantValue := 0 }, { name := "security", type := (.object "java/lang/SecurityManager"), accessFlags := 74, slot := 7, constantValue := 0 }, { name := "notSupportedJnuEncoding", type := (.object "java/lang/String"), accessFlags := 10, slot := 8, constantValue := 0 }, { name := "cons", type := (.object "java/io/Console"), accessFlags := 74, slot := 9, constantValue := 0 }, { name := "initialErrStream", type := (.object "java/io/PrintStream"), accessFlags := 74, slot := 10, constantValue := 0 }, { name := "props", type := (.object "java/util/Properties"), accessFlags := 10, slot := 11, constantValue := 0 }, { name := "lineSeparator", type := (.object "java/lang/String"), accessFlags := 10, slot := 12, constantValue := 0 }, { name := "bootLayer", type := (.object "java/lang/ModuleLayer"), accessFlags := 8, slot := 13, constantValue := 0 }]
  methods := #[k15m0, k15m1]
  instanceTypes := #[]
  staticTypes := #[(.object "java/io/InputStream"), (.object "java/io/PrintStream"), (.object "java/io/PrintStream"), (.object "java/io/InputStream"), .int, .int, .int, (.object "java/lang/SecurityManager"), (.object "java/lang/String"), (.object "java/io/Console"), (.object "java/io/PrintStream"), (.object "java/util/Properties"), (.object "java/lang/String"), (.object "java/lang/ModuleLayer")]
  resolved := Array.replicate 834 none
  statics := none }

def pool16 : Array CpInfo := pool [(2, .class_ 4), (1, u "java/lang/Object"), (0, u "<init>"), (0, u "()V"), (7, .class_ 16), (1, u "java/util/Arrays"), (57, .class_ 76), (1, u "java/util/Arrays$NaturalOrder"), (32, u "()Ljava/lang/Object;"), (3, .class_ 115), (1, u "java/util/Arrays$LegacyMergeSort"), (1, u "Z"), (10, .nameAndType 129 109), (0, u "clone"), (9, u "copyOfRange"), (10, .methodref 151 152), (0, .class_ 153), (0, .nameAndType 154 155), (0, u "java/lang/System"), (0, u "arraycopy"), (0, u "(Ljava/lang/Object;ILjava/lang/Object;II)V"), (146, u "copyOf"), (1, .methodref 305 306), (0, .class_ 307), (0, .nameAndType 308 309), (0, u "java/lang/Math"), (0, u "min"), (0, u "(II)I"), (0, .methodref 311 128), (0, .class_ 312), (0, u "[B"), (26, .methodref 14 340), (0, .nameAndType 341 342), (0, u "copyOfRangeByte"), (0, u "([BII)[B"), (0, .methodref 14 344), (0, .nameAndType 345 346), (0, u "checkLength"), (0, u "(II)V"), (28, .class_ 376), (0, u "java/util/Arrays$ArrayList"), (68, u "$assertionsDisabled"), (269, u "MIN_ARRAY_SORT_GRAN"), (0, u "I"), (2, u "INSERTIONSORT_THRESHOLD"), (149, u "([BI)[B"), (105, .class_ 976), (0, u "java/util/Arrays$ArrayItr")] 52

def k16m0 : Method := { name := "<init>", desc := "()V", sig := { parameters := [], returnType := none }, accessFlags := 2, code := none }
def k16c1 : Code := { maxStack := 6, maxLocals := 3, code := jdk_65_method_121_code, exceptionTable := #[], attributes := #[] }
def k16m1 : Method := { name := "copyOf", desc := "([BI)[B", sig := { parameters := [(.array .byte), .int], returnType := some (.array .byte) }, accessFlags := 9, code := some k16c1 }
def k16c2 : Code := { maxStack := 4, maxLocals := 2, code := jdk_65_method_131_code, exceptionTable := #[], attributes := #[] }
def k16m2 : Method := { name := "checkLength", desc := "(II)V", sig := { parameters := [.int, .int], returnType := none }, accessFlags := 10, code := some k16c2 }
def k16c3 : Code := { maxStack := 3, maxLocals := 3, code := jdk_65_method_132_code, exceptionTable := #[], attributes := #[] }
def k16m3 : Method := { name := "copyOfRange", desc := "([BII)[B", sig := { parameters := [(.array .byte), .int, .int], returnType := some (.array .byte) }, accessFlags := 9, code := some k16c3 }
def k16c4 : Code := { maxStack := 6, maxLocals := 5, code := jdk_65_method_133_code, exceptionTable := #[], attributes := #[] }
def k16m4 : Method := { name := "copyOfRangeByte", desc := "([BII)[B", sig := { parameters := [(.array .byte), .int, .int], returnType := some (.array .byte) }, accessFlags := 10, code := some k16c4 }
/-- java/util/Arrays -/
def k16 : Class := { plain "java/util/Arrays" (some 0) with
  accessFlags := 49
  interfaces := #[]
  cf := some (fileOf pool16 14 #[.nestMembers #[975, 375, 113, 74]] #[{ accessFlags := 2, nameIndex := 5, descriptorIndex := 6, attributes := #[] }, { accessFlags := 9, nameIndex := 302, descriptorIndex := 869, attributes := #[] }, { accessFlags := 10, nameIndex := 345, descriptorIndex := 346, attributes := #[] }, { accessFlags := 9, nameIndex := 139, descriptorIndex := 342, attributes := #[] }, { accessFlags := 10, nameIndex := 341, descriptorIndex := 342, attributes := #[] }] 49 2 #[] #[{ accessFlags := 26, nameIndex := 715, descriptorIndex := 716, attributes := #[] }, { accessFlags := 26, nameIndex := 719, descriptorIndex := 716, attributes := #[] }, { accessFlags := 4120, nameIndex := 445, descriptorIndex := 117, attributes := #[] }])
  fields := #[{ name := "MIN_ARRAY_SORT_GRAN", type := .int, accessFlags := 26, slot := 0, constantValue := 0 }, { name := "INSERTIONSORT_THRESHOLD", type := .int, accessFlags := 26, slot := 1, constantValue := 0 }, { name := "$assertionsDisabled", type := .boolean, accessFlags := 4120, slot := 2, constantValue := 0 }]
  methods := #[k16m0, k16m1, k16m2, k16m3, k16m4]
  instanceTypes := #[]
  staticTypes := #[.int, .int, .boolean]
  resolved := Array.replicate 1029 none
  statics := none }

def pool17 : Array CpInfo := pool [(1, .class_ 2), (0, u "java/lang/Cloneable"), (0, .class_ 4), (0, u "java/lang/Object")] 2

/-- java/lang/Cloneable -/
def k17 : Class := { plain "java/lang/Cloneable" (some 0) with
  accessFlags := 1537
  interfaces := #[]
  cf := some (fileOf pool17 1 #[] #[] 1537 3 #[] #[])
  fields := #[]
  methods := #[]
  instanceTypes := #[]
  staticTypes := #[]
  resolved := Array.replicate 7 none
  statics := none }

def pool18 : Array CpInfo := pool [(1, .class_ 2), (0, u "java/lang/String"), (1, .class_ 6), (1, u "java/lang/Object"), (0, u "<init>"), (0, u "()V"), (0, .methodref 1 10), (0, .nameAndType 11 12), (0, u "checkIndex"), (0, u "(II)V"), (1, .class_ 16), (1, u "java/lang/StringLatin1"), (36, u "([BI)C"), (36, u "canEncode"), (14, u "(C)Z"), (15, u "$assertionsDisabled"), (0, u "Z"), (98, .class_ 223), (1, u "java/lang/StringLatin1$LinesSpliterator"), (28, u "charAt"), (127, u "toBytes"), (1, u "(C)[B"), (7, .class_ 391), (0, u "java/lang/StringLatin1$CharsSpliterator")] 3

def k18m0 : Method := { name := "<init>", desc := "()V", sig := { parameters := [], returnType := none }, accessFlags := 0, code := none }
def k18c1 : Code := { maxStack := 2, maxLocals := 2, code := jdk_43_method_2_code, exceptionTable := #[], attributes := #[] }
def k18m1 : Method := { name := "charAt", desc := "([BI)C", sig := { parameters := [(.array .byte), .int], returnType := some .char }, accessFlags := 9, code := some k18c1 }
def k18c2 : Code := { maxStack := 2, maxLocals := 1, code := jdk_43_method_3_code, exceptionTable := #[], attributes := #[] }
def k18m2 : Method := { name := "canEncode", desc := "(C)Z", sig := { parameters := [.char], returnType := some .boolean }, accessFlags := 9, code := some k18c2 }
def k18c3 : Code := { maxStack := 4, maxLocals := 1, code := jdk_43_method_46_code, exceptionTable := #[], attributes := #[] }
def k18m3 : Method := { name := "toBytes", desc := "(C)[B", sig := { parameters := [.char], returnType := some (.array .byte) }, accessFlags := 9, code := some k18c3 }
/-- java/lang/StringLatin1 -/
def k18 : Class := { plain "java/lang/StringLatin1" (some 0) with
  accessFlags := 48
  interfaces := #[]
  cf := some (fileOf pool18 14 #[.nestMembers #[390, 221]] #[{ accessFlags := 0, nameIndex := 7, descriptorIndex := 8, attributes := #[] }, { accessFlags := 9, nameIndex := 252, descriptorIndex := 53, attributes := #[] }, { accessFlags := 9, nameIndex := 90, descriptorIndex := 105, attributes := #[] }, { accessFlags := 9, nameIndex := 380, descriptorIndex := 382, attributes := #[] }] 48 4 #[] #[{ accessFlags := 4120, nameIndex := 121, descriptorIndex := 122, attributes := #[] }])
  fields := #[{ name := "$assertionsDisabled", type := .boolean, accessFlags := 4120, slot := 0, constantValue := 0 }]
  methods := #[k18m0, k18m1, k18m2, k18m3]
  instanceTypes := #[]
  staticTypes := #[.boolean]
  resolved := Array.replicate 395 none
  statics := none }

def pool19 : Array CpInfo := pool [(2, .class_ 4), (1, u "java/lang/Object"), (0, u "<init>"), (0, u "()V"), (17, .class_ 26), (1, u "jdk/internal/util/Preconditions"), (6, u "checkIndex"), (21, .class_ 56), (0, u "jdk/internal/util/Preconditions$4"), (57, .class_ 115), (0, u "jdk/internal/util/Preconditions$1"), (7, u "SIOOBE_FORMATTER"), (0, u "Ljava/util/function/BiFunction;"), (0, .class_ 126), (0, u "jdk/internal/util/Preconditions$2"), (3, u "AIOOBE_FORMATTER"), (0, .class_ 132), (0, u "jdk/internal/util/Preconditions$3"), (3, u "IOOBE_FORMATTER"), (41, u "(IILjava/util/function/BiFunction;)I")] 15

def k19m0 : Method := { name := "<init>", desc := "()V", sig := { parameters := [], returnType := none }, accessFlags := 1, code := none }
def k19c1 : Code := { maxStack := 3, maxLocals := 3, code := jdk_41_method_11_code, exceptionTable := #[], attributes := #[] }
def k19m1 : Method := { name := "checkIndex", desc := "(IILjava/util/function/BiFunction;)I", sig := { parameters := [.int, .int, (.object "java/util/function/BiFunction")], returnType := some .int }, accessFlags := 9, code := some k19c1 }
/-- jdk/internal/util/Preconditions -/
def k19 : Class := { plain "jdk/internal/util/Preconditions" (some 0) with
  accessFlags := 33
  interfaces := #[]
  cf := some (fileOf pool19 24 #[.nestMembers #[55, 131, 125, 114]] #[{ accessFlags := 1, nameIndex := 5, descriptorIndex := 6, attributes := #[] }, { accessFlags := 9, nameIndex := 33, descriptorIndex := 178, attributes := #[] }] 33 2 #[] #[{ accessFlags := 25, nameIndex := 123, descriptorIndex := 124, attributes := #[] }, { accessFlags := 25, nameIndex := 130, descriptorIndex := 124, attributes := #[] }, { accessFlags := 25, nameIndex := 136, descriptorIndex := 124, attributes := #[] }])
  fields := #[{ name := "SIOOBE_FORMATTER", type := (.object "java/util/function/BiFunction"), accessFlags := 25, slot := 0, constantValue := 0 }, { name := "AIOOBE_FORMATTER", type := (.object "java/util/function/BiFunction"), accessFlags := 25, slot := 1, constantValue := 0 }, { name := "IOOBE_FORMATTER", type := (.object "java/util/function/BiFunction"), accessFlags := 25, slot := 2, constantValue := 0 }]
  methods := #[k19m0, k19m1]
  instanceTypes := #[]
  staticTypes := #[(.object "java/util/function/BiFunction"), (.object "java/util/function/BiFunction"), (.object "java/util/function/BiFunction")]
  resolved := Array.replicate 194 none
  statics := some 2 }

def pool20 : Array CpInfo := pool [(9, u "<init>"), (6, .class_ 18), (1, u "java/lang/Object"), (0, u "()V"), (1, .class_ 23), (1, u "jdk/internal/util/ArraysSupport"), (0, u "LOG2_ARRAY_LONG_INDEX_SCALE"), (0, u "I"), (2, u "U"), (0, u "Ljdk/internal/misc/Unsafe;"), (8, u "BIG_ENDIAN"), (0, u "Z"), (8, u "LOG2_BYTE_BIT_SIZE"), (4, u "LOG2_ARRAY_INT_INDEX_SCALE"), (54, u "JLA"), (0, u "Ljdk/internal/access/JavaLangAccess;"), (11, u "LOG2_ARRAY_BOOLEAN_INDEX_SCALE"), (9, u "LOG2_ARRAY_BYTE_INDEX_SCALE"), (5, u "LOG2_ARRAY_CHAR_INDEX_SCALE"), (5, u "LOG2_ARRAY_SHORT_INDEX_SCALE"), (18, u "LOG2_ARRAY_FLOAT_INDEX_SCALE"), (24, u "LOG2_ARRAY_DOUBLE_INDEX_SCALE"), (6, .methodref 195 196), (0, .class_ 197), (0, .nameAndType 198 199), (0, u "java/lang/Math"), (0, u "max"), (0, u "(II)I"), (0, .integer 2147483639), (76, u "T_BOOLEAN"), (2, u "T_CHAR"), (1, u "T_FLOAT"), (1, u "T_DOUBLE"), (1, u "T_BYTE"), (1, u "T_SHORT"), (1, u "T_INT"), (1, u "T_LONG"), (1, u "SOFT_MAX_ARRAY_LENGTH"), (56, u "newLength"), (0, u "(III)I")] 25

def k20m0 : Method := { name := "<init>", desc := "()V", sig := { parameters := [], returnType := none }, accessFlags := 2, code := none }
def k20c1 : Code := { maxStack := 3, maxLocals := 4, code := jdk_48_method_27_code, exceptionTable := #[], attributes := #[] }
def k20m1 : Method := { name := "newLength", desc := "(III)I", sig := { parameters := [.int, .int, .int], returnType := some .int }, accessFlags := 9, code := some k20c1 }
/-- jdk/internal/util/ArraysSupport -/
def k20 : Class := { plain "jdk/internal/util/ArraysSupport" (some 0) with
  accessFlags := 33
  interfaces := #[]
  cf := some (fileOf pool20 21 #[] #[{ accessFlags := 2, nameIndex := 9, descriptorIndex := 19, attributes := #[] }, { accessFlags := 9, nameIndex := 351, descriptorIndex := 352, attributes := #[] }] 33 16 #[] #[{ accessFlags := 24, nameIndex := 28, descriptorIndex := 29, attributes := #[] }, { accessFlags := 26, nameIndex := 38, descriptorIndex := 39, attributes := #[] }, { accessFlags := 25, nameIndex := 121, descriptorIndex := 25, attributes := #[] }, { accessFlags := 25, nameIndex := 131, descriptorIndex := 25, attributes := #[] }, { accessFlags := 25, nameIndex := 137, descriptorIndex := 25, attributes := #[] }, { accessFlags := 25, nameIndex := 143, descriptorIndex := 25, attributes := #[] }, { accessFlags := 25, nameIndex := 53, descriptorIndex := 25, attributes := #[] }, { accessFlags := 25, nameIndex := 24, descriptorIndex := 25, attributes := #[] }, { accessFlags := 25, nameIndex := 162, descriptorIndex := 25, attributes := #[] }, { accessFlags := 25, nameIndex := 187, descriptorIndex := 25, attributes := #[] }, { accessFlags := 26, nameIndex := 48, descriptorIndex := 25, attributes := #[] }, { accessFlags := 25, nameIndex := 277, descriptorIndex := 25, attributes := #[] }, { accessFlags := 25, nameIndex := 280, descriptorIndex := 25, attributes := #[] }, { accessFlags := 25, nameIndex := 282, descriptorIndex := 25, attributes := #[] }, { accessFlags := 25, nameIndex := 284, descriptorIndex := 25, attributes := #[] }, { accessFlags := 25, nameIndex := 286, descriptorIndex := 25, attributes := #[] }, { accessFlags := 25, nameIndex := 288, descriptorIndex := 25, attributes := #[] }, { accessFlags := 25, nameIndex := 290, descriptorIndex := 25, attributes := #[] }, { accessFlags := 25, nameIndex := 292, descriptorIndex := 25, attributes := #[] }, { accessFlags := 26, nameIndex := 108, descriptorIndex := 109, attributes := #[] }, { accessFlags := 25, nameIndex := 294, descriptorIndex := 25, attributes := #[] }])
  fields := #[{ name := "U", type := (.object "jdk/internal/misc/Unsafe"), accessFlags := 24, slot := 0, constantValue := 0 }, { name := "BIG_ENDIAN", type := .boolean, accessFlags := 26, slot := 1, constantValue := 0 }, { name := "LOG2_ARRAY_BOOLEAN_INDEX_SCALE", type := .int, accessFlags := 25, slot := 2, constantValue := 0 }, { name := "LOG2_ARRAY_BYTE_INDEX_SCALE", type := .int, accessFlags := 25, slot := 3, constantValue := 0 }, { name := "LOG2_ARRAY_CHAR_INDEX_SCALE", type := .int, accessFlags := 25, slot := 4, constantValue := 0 }, { name := "LOG2_ARRAY_SHORT_INDEX_SCALE", type := .int, accessFlags := 25, slot := 5, constantValue := 0 }, { name := "LOG2_ARRAY_INT_INDEX_SCALE", type := .int, accessFlags := 25, slot := 6, constantValue := 0 }, { name := "LOG2_ARRAY_LONG_INDEX_SCALE", type := .int, accessFlags := 25, slot := 7, constantValue := 0 }, { name := "LOG2_ARRAY_FLOAT_INDEX_SCALE", type := .int, accessFlags := 25, slot := 8, constantValue := 0 }, { name := "LOG2_ARRAY_DOUBLE_INDEX_SCALE", type := .int, accessFlags := 25, slot := 9, constantValue := 0 }, { name := "LOG2_BYTE_BIT_SIZE", type := .int, accessFlags := 26, slot := 10, constantValue := 0 }, { name := "T_BOOLEAN", type := .int, accessFlags := 25, slot := 11, constantValue := 0 }, { name := "T_CHAR", type := .int, accessFlags := 25, slot := 12, constantValue := 0 }, { name := "T_FLOAT", type := .int, accessFlags := 25, slot := 13, constantValue := 0 }, { name := "T_DOUBLE", type := .int, accessFlags := 25, slot := 14, constantValue := 0 }, { name := "T_BYTE", type := .int, accessFlags := 25, slot := 15, constantValue := 0 }, { name := "T_SHORT", type := .int, accessFlags := 25, slot := 16, constantValue := 0 }, { name := "T_INT", type := .int, accessFlags := 25, slot := 17, constantValue := 0 }, { name := "T_LONG", type := .int, accessFlags := 25, slot := 18, constantValue := 0 }, { name := "JLA", type := (.object "jdk/internal/access/JavaLangAccess"), accessFlags := 26, slot := 19, constantValue := 0 }, { name := "SOFT_MAX_ARRAY_LENGTH", type := .int, accessFlags := 25, slot := 20, constantValue := 0 }]
  methods := #[k20m0, k20m1]
  instanceTypes := #[]
  staticTypes := #[(.object "jdk/internal/misc/Unsafe"), .boolean, .int, .int, .int, .int, .int, .int, .int, .int, .int, .int, .int, .int, .int, .int, .int, .int, .int, (.object "jdk/internal/access/JavaLangAccess"), .int]
  resolved := Array.replicate 378 none
  statics := none }

def pool21 : Array CpInfo := pool [(1, .class_ 2), (0, u "java/lang/Math"), (1, .class_ 6), (1, u "java/lang/Object"), (0, u "<init>"), (0, u "()V"), (89, .class_ 100), (1, u "java/lang/Math$RandomNumberGeneratorHolder"), (71, u "negativeZeroFloatBits"), (0, u "J"), (2, u "negativeZeroDoubleBits"), (21, u "max"), (2, u "min"), (43, u "$assertionsDisabled"), (0, u "Z"), (88, u "(II)I"), (2, u "twoToTheDoubleScaleDown"), (0, u "D"), (4, u "twoToTheDoubleScaleUp"), (9, u "E"), (3, u "PI"), (2, u "TAU"), (2, u "DEGREES_TO_RADIANS"), (0, u "RADIANS_TO_DEGREES")] 94

def k21m0 : Method := { name := "<init>", desc := "()V", sig := { parameters := [], returnType := none }, accessFlags := 2, code := none }
def k21c1 : Code := { maxStack := 2, maxLocals := 2, code := jdk_29_method_65_code, exceptionTable := #[], attributes := #[] }
def k21m1 : Method := { name := "max", desc := "(II)I", sig := { parameters := [.int, .int], returnType := some .int }, accessFlags := 9, code := some k21c1 }
def k21c2 : Code := { maxStack := 2, maxLocals := 2, code := jdk_29_method_69_code, exceptionTable := #[], attributes := #[] }
def k21m2 : Method := { name := "min", desc := "(II)I", sig := { parameters := [.int, .int], returnType := some .int }, accessFlags := 9, code := some k21c2 }
/-- java/lang/Math -/
def k21 : Class := { plain "java/lang/Math" (some 0) with
  accessFlags := 49
  interfaces := #[]
  cf := some (fileOf pool21 1 #[.nestMembers #[98]] #[{ accessFlags := 2, nameIndex := 7, descriptorIndex := 8, attributes := #[] }, { accessFlags := 9, nameIndex := 198, descriptorIndex := 335, attributes := #[] }, { accessFlags := 9, nameIndex := 201, descriptorIndex := 335, attributes := #[] }] 49 4 #[] #[{ accessFlags := 25, nameIndex := 354, descriptorIndex := 339, attributes := #[] }, { accessFlags := 25, nameIndex := 358, descriptorIndex := 339, attributes := #[] }, { accessFlags := 25, nameIndex := 361, descriptorIndex := 339, attributes := #[] }, { accessFlags := 26, nameIndex := 364, descriptorIndex := 339, attributes := #[] }, { accessFlags := 26, nameIndex := 365, descriptorIndex := 339, attributes := #[] }, { accessFlags := 26, nameIndex := 172, descriptorIndex := 173, attributes := #[] }, { accessFlags := 26, nameIndex := 176, descriptorIndex := 173, attributes := #[] }, { accessFlags := 8, nameIndex := 344, descriptorIndex := 339, attributes := #[] }, { accessFlags := 8, nameIndex := 338, descriptorIndex := 339, attributes := #[] }, { accessFlags := 4120, nameIndex := 245, descriptorIndex := 246, attributes := #[] }])
  fields := #[{ name := "E", type := .double, accessFlags := 25, slot := 0, constantValue := 0 }, { name := "PI", type := .double, accessFlags := 25, slot := 1, constantValue := 0 }, { name := "TAU", type := .double, accessFlags := 25, slot := 2, constantValue := 0 }, { name := "DEGREES_TO_RADIANS", type := .double, accessFlags := 26, slot := 3, constantValue := 0 }, { name := "RADIANS_TO_DEGREES", type := .double, accessFlags := 26, slot := 4, constantValue := 0 }, { name := "negativeZeroFloatBits", type := .long, accessFlags := 26, slot := 5, constantValue := 0 }, { name := "negativeZeroDoubleBits", type := .long, accessFlags := 26, slot := 6, constantValue := 0 }, { name := "twoToTheDoubleScaleUp", type := .double, accessFlags := 8, slot := 7, constantValue := 0 }, { name := "twoToTheDoubleScaleDown", type := .double, accessFlags := 8, slot := 8, constantValue := 0 }, { name := "$assertionsDisabled", type := .boolean, accessFlags := 4120, slot := 9, constantValue := 0 }]
  methods := #[k21m0, k21m1, k21m2]
  instanceTypes := #[]
  staticTypes := #[.double, .double, .double, .double, .double, .long, .long, .double, .double, .boolean]
  resolved := Array.replicate 460 none
  statics := none }

def pool22 : Array CpInfo := pool [(6, .class_ 8), (1, u "java/lang/Object"), (0, u "<init>"), (0, u "()V"), (1, .class_ 14), (1, u "java/lang/StringUTF16"), (31, u "$assertionsDisabled"), (0, u "Z"), (13, u "HI_BYTE_SHIFT"), (0, u "I"), (2, u "LO_BYTE_SHIFT"), (49, .methodref 12 116), (0, .nameAndType 117 118), (0, u "compress"), (0, u "([CI[BII)I"), (3, u "([CII)[B"), (138, u "coderFromArrayLen"), (0, u "([BI)B"), (106, .class_ 371), (1, u "java/lang/StringUTF16$LinesSpliterator"), (58, u "MAX_LENGTH"), (196, .class_ 628), (0, u "java/lang/StringUTF16$CodePointsSpliterator"), (0, .class_ 630), (0, u "java/lang/StringUTF16$CharsSpliterator")] 4

def k22m0 : Method := { name := "<init>", desc := "()V", sig := { parameters := [], returnType := none }, accessFlags := 0, code := none }
def k22c1 : Code := { maxStack := 2, maxLocals := 2, code := jdk_52_method_15_code, exceptionTable := #[], attributes := #[] }
def k22m1 : Method := { name := "coderFromArrayLen", desc := "([BI)B", sig := { parameters := [(.array .byte), .int], returnType := some .byte }, accessFlags := 8, code := some k22c1 }
def k22c2 : Code := { maxStack := 5, maxLocals := 6, code := jdk_52_method_16_code, exceptionTable := #[], attributes := #[] }
def k22m2 : Method := { name := "compress", desc := "([CII)[B", sig := { parameters := [(.array .char), .int, .int], returnType := some (.array .byte) }, accessFlags := 9, code := some k22c2 }
def k22c3 : Code := { maxStack := 3, maxLocals := 7, code := jdk_52_method_21_code, exceptionTable := #[], attributes := #[] }
def k22m3 : Method := { name := "compress", desc := "([CI[BII)I", sig := { parameters := [(.array .char), .int, (.array .byte), .int, .int], returnType := some .int }, accessFlags := 9, code := some k22c3 }
/-- java/lang/StringUTF16 -/
def k22 : Class := { plain "java/lang/StringUTF16" (some 0) with
  accessFlags := 48
  interfaces := #[]
  cf := some (fileOf pool22 12 #[.nestMembers #[627, 629, 369]] #[{ accessFlags := 0, nameIndex := 9, descriptorIndex := 10, attributes := #[] }, { accessFlags := 8, nameIndex := 261, descriptorIndex := 262, attributes := #[] }, { accessFlags := 9, nameIndex := 117, descriptorIndex := 122, attributes := #[] }, { accessFlags := 9, nameIndex := 117, descriptorIndex := 118, attributes := #[] }] 48 6 #[] #[{ accessFlags := 26, nameIndex := 61, descriptorIndex := 62, attributes := #[] }, { accessFlags := 26, nameIndex := 65, descriptorIndex := 62, attributes := #[] }, { accessFlags := 24, nameIndex := 430, descriptorIndex := 62, attributes := #[] }, { accessFlags := 4120, nameIndex := 46, descriptorIndex := 47, attributes := #[] }])
  fields := #[{ name := "HI_BYTE_SHIFT", type := .int, accessFlags := 26, slot := 0, constantValue := 0 }, { name := "LO_BYTE_SHIFT", type := .int, accessFlags := 26, slot := 1, constantValue := 0 }, { name := "MAX_LENGTH", type := .int, accessFlags := 24, slot := 2, constantValue := 0 }, { name := "$assertionsDisabled", type := .boolean, accessFlags := 4120, slot := 3, constantValue := 0 }]
  methods := #[k22m0, k22m1, k22m2, k22m3]
  instanceTypes := #[]
  staticTypes := #[.int, .int, .int, .boolean]
  resolved := Array.replicate 635 none
  statics := none }

def pool23 : Array CpInfo := pool [(2, .class_ 4), (1, u "java/lang/Object"), (0, u "<init>"), (0, u "()V"), (12, .class_ 20), (0, u "java/util/Collections"), (63, u "r"), (0, u "Ljava/util/Random;"), (80, .class_ 167), (0, u "java/util/Collections$UnmodifiableCollection"), (6, .class_ 175), (0, u "java/util/Collections$UnmodifiableSequencedCollection"), (6, .class_ 183), (0, u "java/util/Collections$UnmodifiableSet"), (6, .class_ 191), (0, u "java/util/Collections$UnmodifiableSequencedSet"), (6, .class_ 199), (0, u "java/util/Collections$UnmodifiableSortedSet"), (6, .class_ 207), (0, u "java/util/Collections$UnmodifiableNavigableSet"), (4, .class_ 213), (0, u "java/util/Collections$UnmodifiableList"), (1, .class_ 216), (0, u "java/util/Collections$UnmodifiableRandomAccessList"), (6, .class_ 224), (0, u "java/util/Collections$UnmodifiableMap"), (6, .class_ 232), (0, u "java/util/Collections$UnmodifiableSequencedMap"), (4, .class_ 238), (0, u "java/util/Collections$UnmodifiableSortedMap"), (6, .class_ 246), (0, u "java/util/Collections$UnmodifiableNavigableMap"), (3, .class_ 251), (0, u "java/util/Collections$SynchronizedCollection"), (4, .class_ 257), (0, u "java/util/Collections$SynchronizedSet"), (4, .class_ 263), (0, u "java/util/Collections$SynchronizedSortedSet"), (1, .class_ 266), (0, u "java/util/Collections$SynchronizedNavigableSet"), (1, .class_ 269), (0, u "java/util/Collections$SynchronizedRandomAccessList"), (1, .class_ 272), (0, u "java/util/Collections$SynchronizedList"), (5, .class_ 279), (0, u "java/util/Collections$SynchronizedMap"), (1, .class_ 282), (0, u "java/util/Collections$SynchronizedSortedMap"), (1, .class_ 285), (0, u "java/util/Collections$SynchronizedNavigableMap"), (1, .class_ 288), (0, u "java/util/Collections$CheckedCollection"), (11, .class_ 301), (0, u "java/util/Collections$CheckedQueue"), (3, .class_ 306), (0, u "java/util/Collections$CheckedSet"), (3, .class_ 311), (0, u "java/util/Collections$CheckedSortedSet"), (3, .class_ 316), (0, u "java/util/Collections$CheckedNavigableSet"), (3, .class_ 321), (0, u "java/util/Collections$CheckedRandomAccessList"), (3, .class_ 326), (0, u "java/util/Collections$CheckedList"), (1, .class_ 329), (0, u "java/util/Collections$CheckedMap"), (3, .class_ 334), (0, u "java/util/Collections$CheckedSortedMap"), (3, .class_ 339), (0, u "java/util/Collections$CheckedNavigableMap"), (4, .class_ 346), (1, u "java/util/Collections$EmptyIterator"), (3, .class_ 352), (1, u "java/util/Collections$EmptyListIterator"), (2, .class_ 357), (1, u "java/util/Collections$EmptyEnumeration"), (4, u "EMPTY_SET"), (0, u "Ljava/util/Set;"), (6, u "EMPTY_LIST"), (0, u "Ljava/util/List;"), (2, u "EMPTY_MAP"), (0, u "Ljava/util/Map;"), (4, .class_ 381), (0, u "java/util/Collections$SingletonSet"), (2, .class_ 385), (0, u "java/util/Collections$1"), (1, .class_ 388), (0, u "java/util/Collections$2"), (1, .class_ 391), (0, u "java/util/Collections$SingletonList"), (1, .class_ 394), (0, u "java/util/Collections$SingletonMap"), (22, .class_ 418), (0, u "java/util/Collections$CopiesList"), (4, .class_ 425), (1, u "java/util/Collections$ReverseComparator"), (8, .class_ 435), (0, u "java/util/Collections$ReverseComparator2"), (6, .class_ 443), (0, u "java/util/Collections$3"), (25, .class_ 470), (0, u "java/util/Collections$SetFromMap"), (2, .class_ 474), (0, u "java/util/Collections$SequencedSetFromMap"), (3, .class_ 479), (0, u "java/util/Collections$AsLIFOQueue"), (11, .class_ 492), (0, u "java/util/Collections$EmptySet"), (1, .class_ 495), (0, u "java/util/Collections$EmptyList"), (1, .class_ 498), (0, u "java/util/Collections$EmptyMap"), (1, u "BINARYSEARCH_THRESHOLD"), (0, u "I"), (2, u "REVERSE_THRESHOLD"), (1, u "SHUFFLE_THRESHOLD"), (1, u "FILL_THRESHOLD"), (1, u "ROTATE_THRESHOLD"), (1, u "COPY_THRESHOLD"), (1, u "REPLACEALL_THRESHOLD"), (1, u "INDEXOFSUBLIST_THRESHOLD"), (333, .class_ 851), (0, u "java/util/Collections$CheckedMap$CheckedEntrySet"), (0, .class_ 853), (0, u "java/util/Collections$CheckedMap$CheckedEntrySet$CheckedEntry"), (0, .class_ 855), (0, u "java/util/Collections$CheckedMap$CheckedEntrySet$1"), (0, .class_ 857), (0, u "java/util/Collections$CheckedList$1"), (0, .class_ 859), (0, u "java/util/Collections$CheckedCollection$1"), (0, .class_ 861), (0, u "java/util/Collections$UnmodifiableNavigableMap$EmptyNavigableMap"), (0, .class_ 863), (0, u "java/util/Collections$UnmodifiableMap$UnmodifiableEntrySet"), (0, .class_ 865), (0, u "java/util/Collections$UnmodifiableMap$UnmodifiableEntrySet$UnmodifiableEntry"), (0, .class_ 867), (0, u "java/util/Collections$UnmodifiableMap$UnmodifiableEntrySet$UnmodifiableEntrySetSpliterator"), (0, .class_ 869), (0, u "java/util/Collections$UnmodifiableMap$UnmodifiableEntrySet$1"), (0, .class_ 871), (0, u "java/util/Collections$UnmodifiableList$1"), (0, .class_ 873), (0, u "java/util/Collections$UnmodifiableNavigableSet$EmptyNavigableSet"), (0, .class_ 875), (0, u "java/util/Collections$UnmodifiableCollection$1")] 57

def k23m0 : Method := { name := "<init>", desc := "()V", sig := { parameters := [], returnType := none }, accessFlags := 2, code := none }
/-- java/util/Collections -/
def k23 : Class := { plain "java/util/Collections" (some 0) with
  accessFlags := 33
  interfaces := #[]
  cf := some (fileOf pool23 19 #[.nestMembers #[478, 473, 469, 434, 423, 417, 393, 390, 380, 497, 494, 491, 355, 350, 344, 338, 333, 328, 850, 852, 854, 320, 325, 856, 315, 310, 305, 300, 287, 858, 284, 281, 278, 268, 271, 265, 262, 256, 250, 245, 860, 237, 231, 223, 862, 864, 866, 868, 215, 212, 870, 206, 872, 198, 190, 182, 174, 166, 874, 442, 387, 384]] #[{ accessFlags := 2, nameIndex := 5, descriptorIndex := 6, attributes := #[] }] 33 2 #[] #[{ accessFlags := 26, nameIndex := 500, descriptorIndex := 501, attributes := #[] }, { accessFlags := 26, nameIndex := 504, descriptorIndex := 501, attributes := #[] }, { accessFlags := 26, nameIndex := 506, descriptorIndex := 501, attributes := #[] }, { accessFlags := 26, nameIndex := 508, descriptorIndex := 501, attributes := #[] }, { accessFlags := 26, nameIndex := 510, descriptorIndex := 501, attributes := #[] }, { accessFlags := 26, nameIndex := 512, descriptorIndex := 501, attributes := #[] }, { accessFlags := 26, nameIndex := 514, descriptorIndex := 501, attributes := #[] }, { accessFlags := 26, nameIndex := 516, descriptorIndex := 501, attributes := #[] }, { accessFlags := 10, nameIndex := 84, descriptorIndex := 85, attributes := #[] }, { accessFlags := 25, nameIndex := 362, descriptorIndex := 363, attributes := #[] }, { accessFlags := 25, nameIndex := 370, descriptorIndex := 371, attributes := #[] }, { accessFlags := 25, nameIndex := 374, descriptorIndex := 375, attributes := #[] }])
  fields := #[{ name := "BINARYSEARCH_THRESHOLD", type := .int, accessFlags := 26, slot := 0, constantValue := 0 }, { name := "REVERSE_THRESHOLD", type := .int, accessFlags := 26, slot := 1, constantValue := 0 }, { name := "SHUFFLE_THRESHOLD", type := .int, accessFlags := 26, slot := 2, constantValue := 0 }, { name := "FILL_THRESHOLD", type := .int, accessFlags := 26, slot := 3, constantValue := 0 }, { name := "ROTATE_THRESHOLD", type := .int, accessFlags := 26, slot := 4, constantValue := 0 }, { name := "COPY_THRESHOLD", type := .int, accessFlags := 26, slot := 5, constantValue := 0 }, { name := "REPLACEALL_THRESHOLD", type := .int, accessFlags := 26, slot := 6, constantValue := 0 }, { name := "INDEXOFSUBLIST_THRESHOLD", type := .int, accessFlags := 26, slot := 7, constantValue := 0 }, { name := "r", type := (.object "java/util/Random"), accessFlags := 10, slot := 8, constantValue := 0 }, { name := "EMPTY_SET", type := (.object "java/util/Set"), accessFlags := 25, slot := 9, constantValue := 0 }, { name := "EMPTY_LIST", type := (.object "java/util/List"), accessFlags := 25, slot := 10, constantValue := 0 }, { name := "EMPTY_MAP", type := (.object "java/util/Map"), accessFlags := 25, slot := 11, constantValue := 0 }]
  methods := #[k23m0]
  instanceTypes := #[]
  staticTypes := #[.int, .int, .int, .int, .int, .int, .int, .int, (.object "java/util/Random"), (.object "java/util/Set"), (.object "java/util/List"), (.object "java/util/Map")]
  resolved := Array.replicate 933 none
  statics := some 3 }

def pool24 : Array CpInfo := pool [(8, .class_ 10), (1, u "java/lang/Iterable"), (24, .class_ 36), (0, u "java/lang/Object")] 25

/-- java/lang/Iterable -/
def k24 : Class := { plain "java/lang/Iterable" (some 0) with
  accessFlags := 1537
  interfaces := #[]
  cf := some (fileOf pool24 8 #[] #[] 1537 35 #[] #[])
  fields := #[]
  methods := #[]
  instanceTypes := #[]
  staticTypes := #[]
  resolved := Array.replicate 62 none
  statics := none }

def pool25 : Array CpInfo := pool [(10, .class_ 12), (1, u "java/util/Collection"), (47, .class_ 61), (0, u "java/lang/Object"), (0, .class_ 63), (0, u "java/lang/Iterable")] 51

/-- java/util/Collection -/
def k25 : Class := { plain "java/util/Collection" (some 0) with
  accessFlags := 1537
  interfaces := #[24]
  cf := some (fileOf pool25 10 #[] #[] 1537 60 #[62] #[])
  fields := #[]
  methods := #[]
  instanceTypes := #[]
  staticTypes := #[]
  resolved := Array.replicate 115 none
  statics := none }

def pool26 : Array CpInfo := pool [(2, .class_ 4), (1, u "java/lang/Object"), (0, u "<init>"), (0, u "()V"), (1, .class_ 10), (1, u "java/util/AbstractCollection"), (66, .class_ 78), (0, u "java/util/Collection")] 81

def k26m0 : Method := { name := "<init>", desc := "()V", sig := { parameters := [], returnType := none }, accessFlags := 4, code := none }
/-- java/util/AbstractCollection -/
def k26 : Class := { plain "java/util/AbstractCollection" (some 0) with
  accessFlags := 1057
  interfaces := #[25]
  cf := some (fileOf pool26 8 #[] #[{ accessFlags := 4, nameIndex := 5, descriptorIndex := 6, attributes := #[] }] 1057 2 #[77] #[])
  fields := #[]
  methods := #[k26m0]
  instanceTypes := #[]
  staticTypes := #[]
  resolved := Array.replicate 160 none
  statics := none }

def pool27 : Array CpInfo := pool [(8, .class_ 10), (1, u "java/util/SequencedCollection"), (15, .class_ 27), (0, u "java/lang/Object"), (0, .class_ 29), (0, u "java/util/Collection")] 27

/-- java/util/SequencedCollection -/
def k27 : Class := { plain "java/util/SequencedCollection" (some 0) with
  accessFlags := 1537
  interfaces := #[25]
  cf := some (fileOf pool27 8 #[] #[] 1537 26 #[28] #[])
  fields := #[]
  methods := #[]
  instanceTypes := #[]
  staticTypes := #[]
  resolved := Array.replicate 57 none
  statics := none }

def pool28 : Array CpInfo := pool [(8, .class_ 10), (1, u "java/util/List"), (92, .class_ 104), (0, u "java/lang/Object"), (15, .class_ 121), (0, u "java/util/SequencedCollection")] 129

/-- java/util/List -/
def k28 : Class := { plain "java/util/List" (some 0) with
  accessFlags := 1537
  interfaces := #[27]
  cf := some (fileOf pool28 8 #[] #[] 1537 103 #[120] #[])
  fields := #[]
  methods := #[]
  instanceTypes := #[]
  staticTypes := #[]
  resolved := Array.replicate 251 none
  statics := none }

def pool29 : Array CpInfo := pool [(2, .class_ 4), (1, u "java/util/AbstractCollection"), (0, u "<init>"), (0, u "()V"), (1, .class_ 10), (1, u "java/util/AbstractList"), (0, u "modCount"), (0, u "I"), (64, .class_ 78), (0, u "java/util/AbstractList$Itr"), (3, .class_ 83), (0, u "java/util/AbstractList$ListItr"), (9, .class_ 94), (0, u "java/util/AbstractList$RandomAccessSubList"), (3, .class_ 99), (0, u "java/util/AbstractList$SubList"), (33, .class_ 134), (0, u "java/util/List"), (73, .class_ 209), (0, u "java/util/AbstractList$SubList$1"), (0, .class_ 211), (0, u "java/util/AbstractList$RandomAccessSpliterator")] 6

def k29m0 : Method := { name := "<init>", desc := "()V", sig := { parameters := [], returnType := none }, accessFlags := 4, code := none }
/-- java/util/AbstractList -/
def k29 : Class := { plain "java/util/AbstractList" (some 26) with
  accessFlags := 1057
  interfaces := #[28]
  cf := some (fileOf pool29 8 #[.nestMembers #[93, 98, 208, 210, 82, 77]] #[{ accessFlags := 4, nameIndex := 5, descriptorIndex := 6, attributes := #[] }] 1057 2 #[133] #[{ accessFlags := 132, nameIndex := 11, descriptorIndex := 12, attributes := #[] }])
  fields := #[{ name := "modCount", type := .int, accessFlags := 132, slot := 0, constantValue := 0 }]
  methods := #[k29m0]
  instanceTypes := #[.int]
  staticTypes := #[]
  resolved := Array.replicate 218 none
  statics := none }

def pool30 : Array CpInfo := pool [(1, .class_ 2), (0, u "java/util/RandomAccess"), (0, .class_ 4), (0, u "java/lang/Object")] 2

/-- java/util/RandomAccess -/
def k30 : Class := { plain "java/util/RandomAccess" (some 0) with
  accessFlags := 1537
  interfaces := #[]
  cf := some (fileOf pool30 1 #[] #[] 1537 3 #[] #[])
  fields := #[]
  methods := #[]
  instanceTypes := #[]
  staticTypes := #[]
  resolved := Array.replicate 7 none
  statics := none }

def pool31 : Array CpInfo := pool [(2, .class_ 4), (1, u "java/util/AbstractList"), (0, u "<init>"), (0, u "()V"), (1, .class_ 10), (1, u "java/util/Collections"), (54, .class_ 66), (0, u "java/util/Collections$EmptyList"), (0, .class_ 68), (0, u "java/util/RandomAccess"), (0, .class_ 70), (0, u "java/io/Serializable"), (0, u "serialVersionUID"), (0, u "J")] 77

def k31m0 : Method := { name := "<init>", desc := "()V", sig := { parameters := [], returnType := none }, accessFlags := 2, code := none }
/-- java/util/Collections$EmptyList -/
def k31 : Class := { plain "java/util/Collections$EmptyList" (some 29) with
  accessFlags := 32
  interfaces := #[30, 2]
  cf := some (fileOf pool31 65 #[.nestHost 8] #[{ accessFlags := 2, nameIndex := 5, descriptorIndex := 6, attributes := #[] }] 32 2 #[67, 69] #[{ accessFlags := 26, nameIndex := 71, descriptorIndex := 72, attributes := #[] }])
  fields := #[{ name := "serialVersionUID", type := .long, accessFlags := 26, slot := 0, constantValue := 0 }]
  methods := #[k31m0]
  instanceTypes := #[.int]
  staticTypes := #[.long]
  resolved := Array.replicate 150 none
  statics := none }

def pool32 : Array CpInfo := pool [(2, .class_ 4), (1, u "java/lang/StackTraceElement"), (0, u "<init>"), (2, .class_ 10), (1, u "java/lang/Object"), (0, u "()V"), (2, u "format"), (0, u "B"), (2, u "classLoaderName"), (0, u "Ljava/lang/String;"), (2, u "moduleName"), (2, u "moduleVersion"), (12, u "declaringClass"), (4, u "methodName"), (2, u "fileName"), (2, u "lineNumber"), (0, u "I"), (65, u "declaringClassObject"), (0, u "Ljava/lang/Class;"), (33, .class_ 153), (1, u "java/lang/StackTraceElement$HashedModules"), (17, .class_ 172), (0, u "java/io/Serializable"), (0, u "NATIVE_METHOD"), (1, u "UNKNOWN_SOURCE"), (2, u "BUILTIN_CLASS_LOADER"), (1, u "JDK_NON_UPGRADEABLE_MODULE"), (1, u "serialVersionUID"), (0, u "J")] 51

def k32m0 : Method := { name := "<init>", desc := "()V", sig := { parameters := [], returnType := none }, accessFlags := 2, code := none }
/-- java/lang/StackTraceElement -/
def k32 : Class := { plain "java/lang/StackTraceElement" (some 0) with
  accessFlags := 49
  interfaces := #[2]
  cf := some (fileOf pool32 2 #[.nestMembers #[151]] #[{ accessFlags := 2, nameIndex := 5, descriptorIndex := 11, attributes := #[] }] 49 8 #[171] #[{ accessFlags := 26, nameIndex := 173, descriptorIndex := 19, attributes := #[] }, { accessFlags := 26, nameIndex := 175, descriptorIndex := 19, attributes := #[] }, { accessFlags := 130, nameIndex := 116, descriptorIndex := 117, attributes := #[] }, { accessFlags := 2, nameIndex := 18, descriptorIndex := 19, attributes := #[] }, { accessFlags := 2, nameIndex := 22, descriptorIndex := 19, attributes := #[] }, { accessFlags := 2, nameIndex := 25, descriptorIndex := 19, attributes := #[] }, { accessFlags := 2, nameIndex := 38, descriptorIndex := 19, attributes := #[] }, { accessFlags := 2, nameIndex := 43, descriptorIndex := 19, attributes := #[] }, { accessFlags := 2, nameIndex := 46, descriptorIndex := 19, attributes := #[] }, { accessFlags := 2, nameIndex := 49, descriptorIndex := 50, attributes := #[] }, { accessFlags := 2, nameIndex := 14, descriptorIndex := 15, attributes := #[] }, { accessFlags := 26, nameIndex := 178, descriptorIndex := 15, attributes := #[] }, { accessFlags := 26, nameIndex := 180, descriptorIndex := 15, attributes := #[] }, { accessFlags := 26, nameIndex := 182, descriptorIndex := 183, attributes := #[] }])
  fields := #[{ name := "NATIVE_METHOD", type := (.object "java/lang/String"), accessFlags := 26, slot := 0, constantValue := 0 }, { name := "UNKNOWN_SOURCE", type := (.object "java/lang/String"), accessFlags := 26, slot := 1, constantValue := 0 }, { name := "declaringClassObject", type := (.object "java/lang/Class"), accessFlags := 130, slot := 0, constantValue := 0 }, { name := "classLoaderName", type := (.object "java/lang/String"), accessFlags := 2, slot := 1, constantValue := 0 }, { name := "moduleName", type := (.object "java/lang/String"), accessFlags := 2, slot := 2, constantValue := 0 }, { name := "moduleVersion", type := (.object "java/lang/String"), accessFlags := 2, slot := 3, constantValue := 0 }, { name := "declaringClass", type := (.object "java/lang/String"), accessFlags := 2, slot := 4, constantValue := 0 }, { name := "methodName", type := (.object "java/lang/String"), accessFlags := 2, slot := 5, constantValue := 0 }, { name := "fileName", type := (.object "java/lang/String"), accessFlags := 2, slot := 6, constantValue := 0 }, { name := "lineNumber", type := .int, accessFlags := 2, slot := 7, constantValue := 0 }, { name := "format", type := .byte, accessFlags := 2, slot := 8, constantValue := 0 }, { name := "BUILTIN_CLASS_LOADER", type := .byte, accessFlags := 26, slot := 2, constantValue := 0 }, { name := "JDK_NON_UPGRADEABLE_MODULE", type := .byte, accessFlags := 26, slot := 3, constantValue := 0 }, { name := "serialVersionUID", type := .long, accessFlags := 26, slot := 4, constantValue := 0 }]
  methods := #[k32m0]
  instanceTypes := #[(.object "java/lang/Class"), (.object "java/lang/String"), (.object "java/lang/String"), (.object "java/lang/String"), (.object "java/lang/String"), (.object "java/lang/String"), (.object "java/lang/String"), .int, .byte]
  staticTypes := #[(.object "java/lang/String"), (.object "java/lang/String"), .byte, .byte, .long]
  resolved := Array.replicate 235 none
  statics := none }

/-- the primitive byte -/
def k33 : Class := { plain "byte" none with kind := .primitive 'B', accessFlags := 0x411 }
/-- [B -/
def k34 : Class := { plain "[B" (some 0) with kind := .array 33 .byte, interfaces := #[17, 2], accessFlags := 1041 }

/-- the primitive char -/
def k35 : Class := { plain "char" none with kind := .primitive 'C', accessFlags := 0x411 }
/-- [C -/
def k36 : Class := { plain "[C" (some 0) with kind := .array 35 .char, interfaces := #[17, 2], accessFlags := 1041 }

/-- the primitive int -/
def k37 : Class := { plain "int" none with kind := .primitive 'I', accessFlags := 0x411 }
/-- [I -/
def k38 : Class := { plain "[I" (some 0) with kind := .array 37 .int, interfaces := #[17, 2], accessFlags := 1041 }

/-- [Ljava/lang/Object; -/
def k39 : Class := { plain "[Ljava/lang/Object;" (some 0) with kind := .array 0 (.object "java/lang/Object"), interfaces := #[17, 2], accessFlags := 1041 }

/-- [Ljava/lang/StackTraceElement; -/
def k40 : Class := { plain "[Ljava/lang/StackTraceElement;" (some 0) with kind := .array 32 (.object "java/lang/StackTraceElement"), interfaces := #[17, 2], accessFlags := 1041 }

/-- [Ljava/lang/Throwable; -/
def k41 : Class := { plain "[Ljava/lang/Throwable;" (some 0) with kind := .array 8 (.object "java/lang/Throwable"), interfaces := #[17, 2], accessFlags := 1041 }

def heap : Heap := #[{ cls := 7, slots := #[.long 0, .int 1, .null, .int 0, .null, .int 0, .int 0], vm := .statics 7 },
  { cls := 8, slots := #[.long 0, .ref 4, .ref 5, .null, .null, .null, .null, .ref 6, .int 1], vm := .statics 8 },
  { cls := 19, slots := #[.null, .null, .null], vm := .statics 19 },
  { cls := 23, slots := #[.int 0, .int 0, .int 0, .int 0, .int 0, .int 0, .int 0, .int 0, .null, .null, .ref 5, .null], vm := .statics 23 },
  { cls := 40, slots := #[], vm := .none },
  { cls := 31, slots := #[.int 0], vm := .none },
  { cls := 41, slots := #[], vm := .none }]
def classes : Array Class := #[k0, k1, k2, k3, k4, k5, k6, k7, k8, k9, k10, k11, k12, k13, k14, k15, k16, k17, k18, k19, k20, k21, k22, k23, k24, k25, k26, k27, k28, k29, k30, k31, k32, k33, k34, k35, k36, k37, k38, k39, k40, k41]
def interned : List (Array UInt16 × Addr) := []
def slotsUsed : Nat := 32
def theMethod : MethodId := ⟨1, 1⟩
def args0 : Array Value := #[.int 6, .int 65, .int 300]
def aboutOver (below : List Frame) : State where
  vm := { classes := classes, interned := interned.toArray }
  heap := heap
  slotsUsed := slotsUsed
  threads := #[{ frames := .invoking theMethod args0 :: below }]
def below0 : List Frame := [.native { method := ⟨0, 0⟩, args := #[] }]
def about1 : State := aboutOver below0
def p0 : Program := .bare "" "" ""
def e0 : Env := launch0.env 0 0 0
theorem w_frames : about1.frames = Frame.invoking theMethod args0 :: below0 := rfl
theorem w_args : argsFit about1.vm theMethod args0 = true := by decide +kernel
theorem w_heap : heapFits about1 = true := by decide +kernel
theorem w_runnable : about1.curStatus? = some .runnable := by decide +kernel
theorem w_alone : about1.alone = true := by decide +kernel
theorem w_named : about1.methodNamed? x = some theMethod := by decide +kernel
theorem w_hears : about1.hears theMethod below0 = true := by decide +kernel
theorem w_ripe : about1.ripe theMethod args0 below0 = true := by decide +kernel
theorem w_running : about1.status = .running := rfl
theorem w_room : about1.hasRoom e0.platform room_1 = true :=
  launch0.hasRoom_least _ room_1 (by decide +kernel) (by decide +kernel) (by decide +kernel) (by decide +kernel) (by decide +kernel) (by decide +kernel)
theorem allAtoms_all (ts : List Jvm.Cond) (a : Array Jvm.Value) (st : Jvm.State) : (allAtoms ts).before a st = ts.all (fun c => c.before a st) := by
  induction ts with
  | nil => rfl
  | cons c t ih =>
    show (Jvm.Cond.and c (allAtoms t)).before a st = _
    rw [Jvm.Cond.before_and, ih, List.all_cons]
def words1 : List Jvm.Cond := Jvm.Cond.code x code maxLocals ret :: tables_1
/-- a 'code' word, met by the world's own term for the bytes: nothing is compared byte by byte -/
theorem code_word {y : MethodName} {bytes : ByteArray} {mx : Nat} {rt : Option FieldType} {a : Array Value} {s : State} {m : MethodId} {meth : Method} {c : Code} (h1 : s.methodNamed? y = some m) (h2 : s.vm.method? m = some meth) (h3 : meth.code = some c) (h4 : c.code = bytes)
    (h5 : (c.maxLocals == mx && c.exceptionTable.isEmpty && decide (c.maxStack ≤ mostOperands) && decide (meth.sig.returnType = rt) && !meth.locks && decide (parseMethodDescriptor y.desc = some meth.sig)) = true) : (Jvm.Cond.code y bytes mx rt).before a s = true := by
  simp only [Bool.and_eq_true, beq_iff_eq, Bool.not_eq_true', decide_eq_true_eq] at h5
  obtain ⟨⟨⟨⟨⟨g1, g2⟩, g3⟩, g4⟩, g5⟩, g6⟩ := h5
  simp [Cond.before, Cond.holds, Cond.value, h1, h2, h3, h4, g1, g2, g3, g4, g5, g6]
theorem code_wordW {y : MethodName} {bytes : ByteArray} {mx : Nat} {rt : Option FieldType} {hs : List (Nat × Nat × Nat × Nat)} {a : Array Value} {s : State} {m : MethodId} {meth : Method} {c : Code} (h1 : s.methodNamed? y = some m) (h2 : s.vm.method? m = some meth) (h3 : meth.code = some c) (h4 : c.code = bytes)
    (h5 : (c.maxLocals == mx && decide (c.exceptionTable.toList.map (fun h => (h.startPc, h.endPc, h.handlerPc, h.catchType)) = hs) && decide (c.maxStack ≤ mostOperands) && decide (meth.sig.returnType = rt) && !meth.locks && decide (parseMethodDescriptor y.desc = some meth.sig)) = true) : (Jvm.Cond.codeWith y bytes mx rt hs).before a s = true := by
  simp only [Bool.and_eq_true, beq_iff_eq, Bool.not_eq_true', decide_eq_true_eq] at h5
  obtain ⟨⟨⟨⟨⟨g1, g2⟩, g3⟩, g4⟩, g5⟩, g6⟩ := h5
  simp [Cond.before, Cond.holds, Cond.value, h1, h2, h3, h4, g1, g2, g3, g4, g5, g6]
theorem code_wordS {y : MethodName} {bytes : ByteArray} {mx : Nat} {rt : Option FieldType} {a : Array Value} {s : State} {m : MethodId} {meth : Method} {c : Code} (h1 : s.methodNamed? y = some m) (h2 : s.vm.method? m = some meth) (h3 : meth.code = some c) (h4 : c.code = bytes)
    (h5 : (c.maxLocals == mx && c.exceptionTable.isEmpty && decide (c.maxStack ≤ mostOperands) && decide (meth.sig.returnType = rt) && meth.locks && decide (parseMethodDescriptor y.desc = some meth.sig)) = true) : (Jvm.Cond.codeSync y bytes mx rt).before a s = true := by
  simp only [Bool.and_eq_true, beq_iff_eq, Bool.not_eq_true', decide_eq_true_eq] at h5
  obtain ⟨⟨⟨⟨⟨g1, g2⟩, g3⟩, g4⟩, g5⟩, g6⟩ := h5
  simp [Cond.before, Cond.holds, Cond.value, h1, h2, h3, h4, g1, g2, g3, g4, g5, g6]
def isCode : Jvm.Cond → Bool
  | .code _ _ _ _ => true
  | .codeWith _ _ _ _ _ => true
  | .codeSync _ _ _ _ => true
  | _ => false
theorem all_split {L : List Jvm.Cond} {P : Jvm.Cond → Bool} (h1 : L.all (fun c => isCode c || P c) = true) (h2 : ∀ c ∈ L.filter isCode, P c = true) : L.all P = true := by
  refine List.all_eq_true.mpr fun c hc => ?_
  have h := List.all_eq_true.mp h1 c hc
  rcases Bool.eq_false_or_eq_true (isCode c) with hi | hi
  · exact h2 c (List.mem_filter.mpr ⟨hc, hi⟩)
  · simpa [hi] using h
theorem w_c0 : (Jvm.Cond.code x code maxLocals ret).before args0 about1 = true := code_word (m := ⟨1, 1⟩) (meth := k1m1) (c := k1c1) (by decide +kernel) rfl rfl rfl (by decide +kernel)
theorem w_c1 : (Jvm.Cond.code ⟨"com/example/inflow/inflow/model/DeploymentExceptionForDescriptorPinLaw", "byteAt", "(II)C"⟩ method_3_code 2 (some .char)).before args0 about1 = true := code_word (m := ⟨1, 2⟩) (meth := k1m2) (c := k1c2) (by decide +kernel) rfl rfl rfl (by decide +kernel)
theorem w_c2 : (Jvm.Cond.code ⟨"com/example/inflow/inflow/model/DeploymentExceptionForDescriptorPinLaw", "pick", "(CCCI)Ljava/lang/String;"⟩ method_4_code 4 (Option.some (Jvm.ClassFile.FieldType.object "java/lang/String"))).before args0 about1 = true := code_word (m := ⟨1, 3⟩) (meth := k1m3) (c := k1c3) (by decide +kernel) rfl rfl rfl (by decide +kernel)
theorem w_c3 : (Jvm.Cond.code ⟨"java/lang/String", "<init>", "([C)V"⟩ jdk_42_method_3_code 2 none).before args0 about1 = true := code_word (m := ⟨7, 1⟩) (meth := k7m1) (c := k7c1) (by decide +kernel) rfl rfl rfl (by decide +kernel)
theorem w_c4 : (Jvm.Cond.code ⟨"java/lang/String", "<init>", "([CIILjava/lang/Void;)V"⟩ jdk_42_method_149_code 6 none).before args0 about1 = true := code_word (m := ⟨7, 7⟩) (meth := k7m7) (c := k7c7) (by decide +kernel) rfl rfl rfl (by decide +kernel)
theorem w_c5 : (Jvm.Cond.code ⟨"java/lang/Object", "<init>", "()V"⟩ object_method_1_code 1 none).before args0 about1 = true := code_word (m := ⟨0, 0⟩) (meth := k0m0) (c := k0c0) (by decide +kernel) rfl rfl rfl (by decide +kernel)
theorem w_c6 : (Jvm.Cond.code ⟨"com/example/inflow/inflow/model/DeploymentException", "forDescriptor", "(Ljava/lang/String;Ljava/lang/String;)Lcom/example/inflow/inflow/model/DeploymentException;"⟩ prog_8_method_4_code 2 (Option.some (Jvm.ClassFile.FieldType.object "com/example/inflow/inflow/model/DeploymentException"))).before args0 about1 = true := code_word (m := ⟨11, 1⟩) (meth := k11m1) (c := k11c1) (by decide +kernel) rfl rfl rfl (by decide +kernel)
theorem w_c7 : (Jvm.Cond.code ⟨"com/example/inflow/inflow/model/DeploymentException", "message", "(Ljava/lang/String;Ljava/lang/String;)Ljava/lang/String;"⟩ prog_8_method_11_code 2 (Option.some (Jvm.ClassFile.FieldType.object "java/lang/String"))).before args0 about1 = true := code_word (m := ⟨11, 2⟩) (meth := k11m2) (c := k11c2) (by decide +kernel) rfl rfl rfl (by decide +kernel)
theorem w_c8 : (Jvm.Cond.code ⟨"java/lang/StringBuilder", "<init>", "()V"⟩ jdk_67_method_1_code 1 none).before args0 about1 = true := code_word (m := ⟨14, 0⟩) (meth := k14m0) (c := k14c0) (by decide +kernel) rfl rfl rfl (by decide +kernel)
theorem w_c9 : (Jvm.Cond.code ⟨"java/lang/AbstractStringBuilder", "<init>", "(I)V"⟩ jdk_68_method_2_code 2 none).before args0 about1 = true := code_word (m := ⟨13, 1⟩) (meth := k13m1) (c := k13c1) (by decide +kernel) rfl rfl rfl (by decide +kernel)
theorem w_c10 : (Jvm.Cond.code ⟨"java/lang/StringBuilder", "append", "(Ljava/lang/String;)Ljava/lang/StringBuilder;"⟩ jdk_67_method_7_code 2 (Option.some (Jvm.ClassFile.FieldType.object "java/lang/StringBuilder"))).before args0 about1 = true := code_word (m := ⟨14, 1⟩) (meth := k14m1) (c := k14c1) (by decide +kernel) rfl rfl rfl (by decide +kernel)
theorem w_c11 : (Jvm.Cond.code ⟨"java/lang/AbstractStringBuilder", "append", "(Ljava/lang/String;)Ljava/lang/AbstractStringBuilder;"⟩ jdk_68_method_22_code 3 (Option.some (Jvm.ClassFile.FieldType.object "java/lang/AbstractStringBuilder"))).before args0 about1 = true := code_word (m := ⟨13, 5⟩) (meth := k13m5) (c := k13c5) (by decide +kernel) rfl rfl rfl (by decide +kernel)
theorem w_c12 : (Jvm.Cond.code ⟨"java/lang/String", "length", "()I"⟩ jdk_42_method_54_code 1 (some .int)).before args0 about1 = true := code_word (m := ⟨7, 3⟩) (meth := k7m3) (c := k7c3) (by decide +kernel) rfl rfl rfl (by decide +kernel)
theorem w_c13 : (Jvm.Cond.code ⟨"java/lang/String", "coder", "()B"⟩ jdk_42_method_152_code 1 (some .byte)).before args0 about1 = true := code_word (m := ⟨7, 10⟩) (meth := k7m10) (c := k7c10) (by decide +kernel) rfl rfl rfl (by decide +kernel)
theorem w_c14 : (Jvm.Cond.code ⟨"java/lang/AbstractStringBuilder", "ensureCapacityInternal", "(I)V"⟩ jdk_68_method_9_code 3 none).before args0 about1 = true := code_word (m := ⟨13, 3⟩) (meth := k13m3) (c := k13c3) (by decide +kernel) rfl rfl rfl (by decide +kernel)
theorem w_c15 : (Jvm.Cond.code ⟨"java/lang/AbstractStringBuilder", "putStringAt", "(ILjava/lang/String;)V"⟩ jdk_68_method_73_code 3 none).before args0 about1 = true := code_word (m := ⟨13, 9⟩) (meth := k13m9) (c := k13c9) (by decide +kernel) rfl rfl rfl (by decide +kernel)
theorem w_c16 : (Jvm.Cond.code ⟨"java/lang/AbstractStringBuilder", "inflateIfNeededFor", "(Ljava/lang/String;)V"⟩ jdk_68_method_71_code 2 none).before args0 about1 = true := code_word (m := ⟨13, 8⟩) (meth := k13m8) (c := k13c8) (by decide +kernel) rfl rfl rfl (by decide +kernel)
theorem w_c17 : (Jvm.Cond.code ⟨"java/lang/String", "getBytes", "([BIB)V"⟩ jdk_42_method_147_code 4 none).before args0 about1 = true := code_word (m := ⟨7, 6⟩) (meth := k7m6) (c := k7c6) (by decide +kernel) rfl rfl rfl (by decide +kernel)
theorem w_c18 : (Jvm.Cond.code ⟨"java/lang/StringBuilder", "toString", "()Ljava/lang/String;"⟩ jdk_67_method_42_code 1 (Option.some (Jvm.ClassFile.FieldType.object "java/lang/String"))).before args0 about1 = true := code_word (m := ⟨14, 2⟩) (meth := k14m2) (c := k14c2) (by decide +kernel) rfl rfl rfl (by decide +kernel)
theorem w_c19 : (Jvm.Cond.code ⟨"java/lang/String", "<init>", "(Ljava/lang/StringBuilder;)V"⟩ jdk_42_method_53_code 2 none).before args0 about1 = true := code_word (m := ⟨7, 2⟩) (meth := k7m2) (c := k7c2) (by decide +kernel) rfl rfl rfl (by decide +kernel)
theorem w_c20 : (Jvm.Cond.code ⟨"java/lang/String", "<init>", "(Ljava/lang/AbstractStringBuilder;Ljava/lang/Void;)V"⟩ jdk_42_method_150_code 5 none).before args0 about1 = true := code_word (m := ⟨7, 8⟩) (meth := k7m8) (c := k7c8) (by decide +kernel) rfl rfl rfl (by decide +kernel)
theorem w_c21 : (Jvm.Cond.code ⟨"java/lang/AbstractStringBuilder", "getValue", "()[B"⟩ jdk_68_method_64_code 1 (Option.some (Jvm.ClassFile.FieldType.array Jvm.ClassFile.FieldType.byte))).before args0 about1 = true := code_word (m := ⟨13, 6⟩) (meth := k13m6) (c := k13c6) (by decide +kernel) rfl rfl rfl (by decide +kernel)
theorem w_c22 : (Jvm.Cond.code ⟨"java/lang/StringBuilder", "length", "()I"⟩ jdk_67_method_93_code 1 (some .int)).before args0 about1 = true := code_word (m := ⟨14, 3⟩) (meth := k14m3) (c := k14c3) (by decide +kernel) rfl rfl rfl (by decide +kernel)
theorem w_c23 : (Jvm.Cond.code ⟨"java/lang/AbstractStringBuilder", "length", "()I"⟩ jdk_68_method_6_code 1 (some .int)).before args0 about1 = true := code_word (m := ⟨13, 2⟩) (meth := k13m2) (c := k13c2) (by decide +kernel) rfl rfl rfl (by decide +kernel)
theorem w_c24 : (Jvm.Cond.code ⟨"java/lang/AbstractStringBuilder", "isLatin1", "()Z"⟩ jdk_68_method_68_code 1 (some .boolean)).before args0 about1 = true := code_word (m := ⟨13, 7⟩) (meth := k13m7) (c := k13c7) (by decide +kernel) rfl rfl rfl (by decide +kernel)
theorem w_c25 : (Jvm.Cond.code ⟨"java/util/Arrays", "copyOfRange", "([BII)[B"⟩ jdk_65_method_132_code 3 (Option.some (Jvm.ClassFile.FieldType.array Jvm.ClassFile.FieldType.byte))).before args0 about1 = true := code_word (m := ⟨16, 3⟩) (meth := k16m3) (c := k16c3) (by decide +kernel) rfl rfl rfl (by decide +kernel)
theorem w_c26 : (Jvm.Cond.code ⟨"com/example/inflow/inflow/model/DeploymentException", "<init>", "(Ljava/lang/String;)V"⟩ prog_8_method_3_code 2 none).before args0 about1 = true := code_word (m := ⟨11, 0⟩) (meth := k11m0) (c := k11c0) (by decide +kernel) rfl rfl rfl (by decide +kernel)
theorem w_c27 : (Jvm.Cond.code ⟨"java/lang/RuntimeException", "<init>", "(Ljava/lang/String;)V"⟩ jdk_58_method_2_code 2 none).before args0 about1 = true := code_word (m := ⟨10, 1⟩) (meth := k10m1) (c := k10c1) (by decide +kernel) rfl rfl rfl (by decide +kernel)
theorem w_c28 : (Jvm.Cond.code ⟨"java/lang/Exception", "<init>", "(Ljava/lang/String;)V"⟩ jdk_59_method_2_code 2 none).before args0 about1 = true := code_word (m := ⟨9, 1⟩) (meth := k9m1) (c := k9c1) (by decide +kernel) rfl rfl rfl (by decide +kernel)
theorem w_c29 : (Jvm.Cond.code ⟨"java/lang/Throwable", "<init>", "(Ljava/lang/String;)V"⟩ jdk_78_method_2_code 2 none).before args0 about1 = true := code_word (m := ⟨8, 1⟩) (meth := k8m1) (c := k8c1) (by decide +kernel) rfl rfl rfl (by decide +kernel)
theorem w_c30 : (Jvm.Cond.code ⟨"java/lang/Throwable", "<init>", "()V"⟩ jdk_78_method_1_code 1 none).before args0 about1 = true := code_word (m := ⟨8, 0⟩) (meth := k8m0) (c := k8c0) (by decide +kernel) rfl rfl rfl (by decide +kernel)
theorem w_c31 : (Jvm.Cond.code ⟨"java/lang/Throwable", "getMessage", "()Ljava/lang/String;"⟩ jdk_78_method_6_code 1 (Option.some (Jvm.ClassFile.FieldType.object "java/lang/String"))).before args0 about1 = true := code_word (m := ⟨8, 2⟩) (meth := k8m2) (c := k8c2) (by decide +kernel) rfl rfl rfl (by decide +kernel)
theorem w_c32 : (Jvm.Cond.code ⟨"com/example/inflow/inflow/model/DeploymentExceptionForDescriptorPinLaw", "at", "(Ljava/lang/String;IIII)Z"⟩ method_5_code 5 (some .boolean)).before args0 about1 = true := code_word (m := ⟨1, 4⟩) (meth := k1m4) (c := k1c4) (by decide +kernel) rfl rfl rfl (by decide +kernel)
theorem w_c33 : (Jvm.Cond.code ⟨"java/lang/String", "charAt", "(I)C"⟩ jdk_42_method_56_code 2 (some .char)).before args0 about1 = true := code_word (m := ⟨7, 4⟩) (meth := k7m4) (c := k7c4) (by decide +kernel) rfl rfl rfl (by decide +kernel)
theorem w_c34 : (Jvm.Cond.code ⟨"java/lang/String", "isLatin1", "()Z"⟩ jdk_42_method_154_code 1 (some .boolean)).before args0 about1 = true := code_word (m := ⟨7, 11⟩) (meth := k7m11) (c := k7c11) (by decide +kernel) rfl rfl rfl (by decide +kernel)
theorem w_c35 : (Jvm.Cond.code ⟨"java/lang/StringLatin1", "charAt", "([BI)C"⟩ jdk_43_method_2_code 2 (some .char)).before args0 about1 = true := code_word (m := ⟨18, 1⟩) (meth := k18m1) (c := k18c1) (by decide +kernel) rfl rfl rfl (by decide +kernel)
theorem w_c36 : (Jvm.Cond.code ⟨"java/lang/String", "checkIndex", "(II)V"⟩ jdk_42_method_155_code 2 none).before args0 about1 = true := code_word (m := ⟨7, 12⟩) (meth := k7m12) (c := k7c12) (by decide +kernel) rfl rfl rfl (by decide +kernel)
theorem w_c37 : (Jvm.Cond.code ⟨"jdk/internal/util/Preconditions", "checkIndex", "(IILjava/util/function/BiFunction;)I"⟩ jdk_41_method_11_code 3 (some .int)).before args0 about1 = true := code_word (m := ⟨19, 1⟩) (meth := k19m1) (c := k19c1) (by decide +kernel) rfl rfl rfl (by decide +kernel)
theorem w_c38 : (Jvm.Cond.code ⟨"com/example/inflow/inflow/model/DeploymentExceptionForDescriptorPinLaw", "expected", "(IIII)C"⟩ method_6_code 6 (some .char)).before args0 about1 = true := code_word (m := ⟨1, 5⟩) (meth := k1m5) (c := k1c5) (by decide +kernel) rfl rfl rfl (by decide +kernel)
theorem w_c39 : (Jvm.Cond.code ⟨"java/lang/String", "valueOf", "(C)Ljava/lang/String;"⟩ jdk_42_method_139_code 1 (Option.some (Jvm.ClassFile.FieldType.object "java/lang/String"))).before args0 about1 = true := code_word (m := ⟨7, 5⟩) (meth := k7m5) (c := k7c5) (by decide +kernel) rfl rfl rfl (by decide +kernel)
theorem w_c40 : (Jvm.Cond.code ⟨"java/lang/StringLatin1", "canEncode", "(C)Z"⟩ jdk_43_method_3_code 1 (some .boolean)).before args0 about1 = true := code_word (m := ⟨18, 2⟩) (meth := k18m2) (c := k18c2) (by decide +kernel) rfl rfl rfl (by decide +kernel)
theorem w_c41 : (Jvm.Cond.code ⟨"java/lang/StringLatin1", "toBytes", "(C)[B"⟩ jdk_43_method_46_code 1 (Option.some (Jvm.ClassFile.FieldType.array Jvm.ClassFile.FieldType.byte))).before args0 about1 = true := code_word (m := ⟨18, 3⟩) (meth := k18m3) (c := k18c3) (by decide +kernel) rfl rfl rfl (by decide +kernel)
theorem w_c42 : (Jvm.Cond.code ⟨"java/lang/String", "<init>", "([BB)V"⟩ jdk_42_method_151_code 3 none).before args0 about1 = true := code_word (m := ⟨7, 9⟩) (meth := k7m9) (c := k7c9) (by decide +kernel) rfl rfl rfl (by decide +kernel)
theorem w_c43 : (Jvm.Cond.code ⟨"java/lang/AbstractStringBuilder", "newCapacity", "(I)I"⟩ jdk_68_method_10_code 6 (some .int)).before args0 about1 = true := code_word (m := ⟨13, 4⟩) (meth := k13m4) (c := k13c4) (by decide +kernel) rfl rfl rfl (by decide +kernel)
theorem w_c44 : (Jvm.Cond.code ⟨"jdk/internal/util/ArraysSupport", "newLength", "(III)I"⟩ jdk_48_method_27_code 4 (some .int)).before args0 about1 = true := code_word (m := ⟨20, 1⟩) (meth := k20m1) (c := k20c1) (by decide +kernel) rfl rfl rfl (by decide +kernel)
theorem w_c45 : (Jvm.Cond.code ⟨"java/lang/Math", "max", "(II)I"⟩ jdk_29_method_65_code 2 (some .int)).before args0 about1 = true := code_word (m := ⟨21, 1⟩) (meth := k21m1) (c := k21c1) (by decide +kernel) rfl rfl rfl (by decide +kernel)
theorem w_c46 : (Jvm.Cond.code ⟨"java/util/Arrays", "copyOf", "([BI)[B"⟩ jdk_65_method_121_code 3 (Option.some (Jvm.ClassFile.FieldType.array Jvm.ClassFile.FieldType.byte))).before args0 about1 = true := code_word (m := ⟨16, 1⟩) (meth := k16m1) (c := k16c1) (by decide +kernel) rfl rfl rfl (by decide +kernel)
theorem w_c47 : (Jvm.Cond.code ⟨"java/lang/Math", "min", "(II)I"⟩ jdk_29_method_69_code 2 (some .int)).before args0 about1 = true := code_word (m := ⟨21, 2⟩) (meth := k21m2) (c := k21c2) (by decide +kernel) rfl rfl rfl (by decide +kernel)
theorem w_c48 : (Jvm.Cond.code ⟨"java/util/Arrays", "copyOfRangeByte", "([BII)[B"⟩ jdk_65_method_133_code 5 (Option.some (Jvm.ClassFile.FieldType.array Jvm.ClassFile.FieldType.byte))).before args0 about1 = true := code_word (m := ⟨16, 4⟩) (meth := k16m4) (c := k16c4) (by decide +kernel) rfl rfl rfl (by decide +kernel)
theorem w_c49 : (Jvm.Cond.code ⟨"java/util/Arrays", "checkLength", "(II)V"⟩ jdk_65_method_131_code 2 none).before args0 about1 = true := code_word (m := ⟨16, 2⟩) (meth := k16m2) (c := k16c2) (by decide +kernel) rfl rfl rfl (by decide +kernel)
theorem w_c50 : (Jvm.Cond.code ⟨"java/lang/StringUTF16", "compress", "([CII)[B"⟩ jdk_52_method_16_code 6 (Option.some (Jvm.ClassFile.FieldType.array Jvm.ClassFile.FieldType.byte))).before args0 about1 = true := code_word (m := ⟨22, 2⟩) (meth := k22m2) (c := k22c2) (by decide +kernel) rfl rfl rfl (by decide +kernel)
theorem w_c51 : (Jvm.Cond.code ⟨"java/lang/StringUTF16", "compress", "([CI[BII)I"⟩ jdk_52_method_21_code 7 (some .int)).before args0 about1 = true := code_word (m := ⟨22, 3⟩) (meth := k22m3) (c := k22c3) (by decide +kernel) rfl rfl rfl (by decide +kernel)
theorem w_c52 : (Jvm.Cond.code ⟨"java/lang/StringUTF16", "coderFromArrayLen", "([BI)B"⟩ jdk_52_method_15_code 2 (some .byte)).before args0 about1 = true := code_word (m := ⟨22, 1⟩) (meth := k22m1) (c := k22c1) (by decide +kernel) rfl rfl rfl (by decide +kernel)
theorem w_z186 : (Jvm.Cond.codeSync ⟨"java/lang/Throwable", "fillInStackTrace", "()Ljava/lang/Throwable;"⟩ jdk_78_method_18_code 1 (Option.some (Jvm.ClassFile.FieldType.object "java/lang/Throwable"))).before args0 about1 = true := code_wordS (m := ⟨8, 3⟩) (meth := k8m3) (c := k8c3) (by decide +kernel) rfl rfl rfl (by decide +kernel)
def codes1 : List Jvm.Cond := [Jvm.Cond.code x code maxLocals ret, Jvm.Cond.code ⟨"com/example/inflow/inflow/model/DeploymentExceptionForDescriptorPinLaw", "byteAt", "(II)C"⟩ method_3_code 2 (some .char), Jvm.Cond.code ⟨"com/example/inflow/inflow/model/DeploymentExceptionForDescriptorPinLaw", "pick", "(CCCI)Ljava/lang/String;"⟩ method_4_code 4 (Option.some (Jvm.ClassFile.FieldType.object "java/lang/String")), Jvm.Cond.code ⟨"java/lang/String", "<init>", "([C)V"⟩ jdk_42_method_3_code 2 none, Jvm.Cond.code ⟨"java/lang/String", "<init>", "([CIILjava/lang/Void;)V"⟩ jdk_42_method_149_code 6 none, Jvm.Cond.code ⟨"java/lang/Object", "<init>", "()V"⟩ object_method_1_code 1 none, Jvm.Cond.code ⟨"com/example/inflow/inflow/model/DeploymentException", "forDescriptor", "(Ljava/lang/String;Ljava/lang/String;)Lcom/example/inflow/inflow/model/DeploymentException;"⟩ prog_8_method_4_code 2 (Option.some (Jvm.ClassFile.FieldType.object "com/example/inflow/inflow/model/DeploymentException")), Jvm.Cond.code ⟨"com/example/inflow/inflow/model/DeploymentException", "message", "(Ljava/lang/String;Ljava/lang/String;)Ljava/lang/String;"⟩ prog_8_method_11_code 2 (Option.some (Jvm.ClassFile.FieldType.object "java/lang/String")), Jvm.Cond.code ⟨"java/lang/StringBuilder", "<init>", "()V"⟩ jdk_67_method_1_code 1 none, Jvm.Cond.code ⟨"java/lang/AbstractStringBuilder", "<init>", "(I)V"⟩ jdk_68_method_2_code 2 none, Jvm.Cond.code ⟨"java/lang/StringBuilder", "append", "(Ljava/lang/String;)Ljava/lang/StringBuilder;"⟩ jdk_67_method_7_code 2 (Option.some (Jvm.ClassFile.FieldType.object "java/lang/StringBuilder")), Jvm.Cond.code ⟨"java/lang/AbstractStringBuilder", "append", "(Ljava/lang/String;)Ljava/lang/AbstractStringBuilder;"⟩ jdk_68_method_22_code 3 (Option.some (Jvm.ClassFile.FieldType.object "java/lang/AbstractStringBuilder")), Jvm.Cond.code ⟨"java/lang/String", "length", "()I"⟩ jdk_42_method_54_code 1 (some .int), Jvm.Cond.code ⟨"java/lang/String", "coder", "()B"⟩ jdk_42_method_152_code 1 (some .byte), Jvm.Cond.code ⟨"java/lang/AbstractStringBuilder", "ensureCapacityInternal", "(I)V"⟩ jdk_68_method_9_code 3 none, Jvm.Cond.code ⟨"java/lang/AbstractStringBuilder", "putStringAt", "(ILjava/lang/String;)V"⟩ jdk_68_method_73_code 3 none, Jvm.Cond.code ⟨"java/lang/AbstractStringBuilder", "inflateIfNeededFor", "(Ljava/lang/String;)V"⟩ jdk_68_method_71_code 2 none, Jvm.Cond.code ⟨"java/lang/String", "getBytes", "([BIB)V"⟩ jdk_42_method_147_code 4 none, Jvm.Cond.code ⟨"java/lang/StringBuilder", "toString", "()Ljava/lang/String;"⟩ jdk_67_method_42_code 1 (Option.some (Jvm.ClassFile.FieldType.object "java/lang/String")), Jvm.Cond.code ⟨"java/lang/String", "<init>", "(Ljava/lang/StringBuilder;)V"⟩ jdk_42_method_53_code 2 none, Jvm.Cond.code ⟨"java/lang/String", "<init>", "(Ljava/lang/AbstractStringBuilder;Ljava/lang/Void;)V"⟩ jdk_42_method_150_code 5 none, Jvm.Cond.code ⟨"java/lang/AbstractStringBuilder", "getValue", "()[B"⟩ jdk_68_method_64_code 1 (Option.some (Jvm.ClassFile.FieldType.array Jvm.ClassFile.FieldType.byte)), Jvm.Cond.code ⟨"java/lang/StringBuilder", "length", "()I"⟩ jdk_67_method_93_code 1 (some .int), Jvm.Cond.code ⟨"java/lang/AbstractStringBuilder", "length", "()I"⟩ jdk_68_method_6_code 1 (some .int), Jvm.Cond.code ⟨"java/lang/AbstractStringBuilder", "isLatin1", "()Z"⟩ jdk_68_method_68_code 1 (some .boolean), Jvm.Cond.code ⟨"java/util/Arrays", "copyOfRange", "([BII)[B"⟩ jdk_65_method_132_code 3 (Option.some (Jvm.ClassFile.FieldType.array Jvm.ClassFile.FieldType.byte)), Jvm.Cond.code ⟨"com/example/inflow/inflow/model/DeploymentException", "<init>", "(Ljava/lang/String;)V"⟩ prog_8_method_3_code 2 none, Jvm.Cond.code ⟨"java/lang/RuntimeException", "<init>", "(Ljava/lang/String;)V"⟩ jdk_58_method_2_code 2 none, Jvm.Cond.code ⟨"java/lang/Exception", "<init>", "(Ljava/lang/String;)V"⟩ jdk_59_method_2_code 2 none, Jvm.Cond.code ⟨"java/lang/Throwable", "<init>", "(Ljava/lang/String;)V"⟩ jdk_78_method_2_code 2 none, Jvm.Cond.codeSync ⟨"java/lang/Throwable", "fillInStackTrace", "()Ljava/lang/Throwable;"⟩ jdk_78_method_18_code 1 (Option.some (Jvm.ClassFile.FieldType.object "java/lang/Throwable")), Jvm.Cond.code ⟨"java/lang/Throwable", "<init>", "()V"⟩ jdk_78_method_1_code 1 none, Jvm.Cond.code ⟨"java/lang/Throwable", "getMessage", "()Ljava/lang/String;"⟩ jdk_78_method_6_code 1 (Option.some (Jvm.ClassFile.FieldType.object "java/lang/String")), Jvm.Cond.code ⟨"com/example/inflow/inflow/model/DeploymentExceptionForDescriptorPinLaw", "at", "(Ljava/lang/String;IIII)Z"⟩ method_5_code 5 (some .boolean), Jvm.Cond.code ⟨"java/lang/String", "charAt", "(I)C"⟩ jdk_42_method_56_code 2 (some .char), Jvm.Cond.code ⟨"java/lang/String", "isLatin1", "()Z"⟩ jdk_42_method_154_code 1 (some .boolean), Jvm.Cond.code ⟨"java/lang/StringLatin1", "charAt", "([BI)C"⟩ jdk_43_method_2_code 2 (some .char), Jvm.Cond.code ⟨"java/lang/String", "checkIndex", "(II)V"⟩ jdk_42_method_155_code 2 none, Jvm.Cond.code ⟨"jdk/internal/util/Preconditions", "checkIndex", "(IILjava/util/function/BiFunction;)I"⟩ jdk_41_method_11_code 3 (some .int), Jvm.Cond.code ⟨"com/example/inflow/inflow/model/DeploymentExceptionForDescriptorPinLaw", "expected", "(IIII)C"⟩ method_6_code 6 (some .char), Jvm.Cond.code ⟨"java/lang/String", "valueOf", "(C)Ljava/lang/String;"⟩ jdk_42_method_139_code 1 (Option.some (Jvm.ClassFile.FieldType.object "java/lang/String")), Jvm.Cond.code ⟨"java/lang/StringLatin1", "canEncode", "(C)Z"⟩ jdk_43_method_3_code 1 (some .boolean), Jvm.Cond.code ⟨"java/lang/StringLatin1", "toBytes", "(C)[B"⟩ jdk_43_method_46_code 1 (Option.some (Jvm.ClassFile.FieldType.array Jvm.ClassFile.FieldType.byte)), Jvm.Cond.code ⟨"java/lang/String", "<init>", "([BB)V"⟩ jdk_42_method_151_code 3 none, Jvm.Cond.code ⟨"java/lang/AbstractStringBuilder", "newCapacity", "(I)I"⟩ jdk_68_method_10_code 6 (some .int), Jvm.Cond.code ⟨"jdk/internal/util/ArraysSupport", "newLength", "(III)I"⟩ jdk_48_method_27_code 4 (some .int), Jvm.Cond.code ⟨"java/lang/Math", "max", "(II)I"⟩ jdk_29_method_65_code 2 (some .int), Jvm.Cond.code ⟨"java/util/Arrays", "copyOf", "([BI)[B"⟩ jdk_65_method_121_code 3 (Option.some (Jvm.ClassFile.FieldType.array Jvm.ClassFile.FieldType.byte)), Jvm.Cond.code ⟨"java/lang/Math", "min", "(II)I"⟩ jdk_29_method_69_code 2 (some .int), Jvm.Cond.code ⟨"java/util/Arrays", "copyOfRangeByte", "([BII)[B"⟩ jdk_65_method_133_code 5 (Option.some (Jvm.ClassFile.FieldType.array Jvm.ClassFile.FieldType.byte)), Jvm.Cond.code ⟨"java/util/Arrays", "checkLength", "(II)V"⟩ jdk_65_method_131_code 2 none, Jvm.Cond.code ⟨"java/lang/StringUTF16", "compress", "([CII)[B"⟩ jdk_52_method_16_code 6 (Option.some (Jvm.ClassFile.FieldType.array Jvm.ClassFile.FieldType.byte)), Jvm.Cond.code ⟨"java/lang/StringUTF16", "compress", "([CI[BII)I"⟩ jdk_52_method_21_code 7 (some .int), Jvm.Cond.code ⟨"java/lang/StringUTF16", "coderFromArrayLen", "([BI)B"⟩ jdk_52_method_15_code 2 (some .byte)]
theorem codes_eq : words1.filter isCode = codes1 := rfl
theorem w_codes : ∀ c ∈ words1.filter isCode, c.before args0 about1 = true := by
  rw [codes_eq]
  intro c hc
  simp only [codes1, List.mem_cons, List.not_mem_nil, or_false] at hc
  rcases hc with rfl | rfl | rfl | rfl | rfl | rfl | rfl | rfl | rfl | rfl | rfl | rfl | rfl | rfl | rfl | rfl | rfl | rfl | rfl | rfl | rfl | rfl | rfl | rfl | rfl | rfl | rfl | rfl | rfl | rfl | rfl | rfl | rfl | rfl | rfl | rfl | rfl | rfl | rfl | rfl | rfl | rfl | rfl | rfl | rfl | rfl | rfl | rfl | rfl | rfl | rfl | rfl | rfl | rfl
  · exact w_c0
  · exact w_c1
  · exact w_c2
  · exact w_c3
  · exact w_c4
  · exact w_c5
  · exact w_c6
  · exact w_c7
  · exact w_c8
  · exact w_c9
  · exact w_c10
  · exact w_c11
  · exact w_c12
  · exact w_c13
  · exact w_c14
  · exact w_c15
  · exact w_c16
  · exact w_c17
  · exact w_c18
  · exact w_c19
  · exact w_c20
  · exact w_c21
  · exact w_c22
  · exact w_c23
  · exact w_c24
  · exact w_c25
  · exact w_c26
  · exact w_c27
  · exact w_c28
  · exact w_c29
  · exact w_z186
  · exact w_c30
  · exact w_c31
  · exact w_c32
  · exact w_c33
  · exact w_c34
  · exact w_c35
  · exact w_c36
  · exact w_c37
  · exact w_c38
  · exact w_c39
  · exact w_c40
  · exact w_c41
  · exact w_c42
  · exact w_c43
  · exact w_c44
  · exact w_c45
  · exact w_c46
  · exact w_c47
  · exact w_c48
  · exact w_c49
  · exact w_c50
  · exact w_c51
  · exact w_c52
theorem w_t1 : (words1.take 24).all (fun c => isCode c || c.before args0 about1) = true := by decide +kernel
theorem w_t2 : ((words1.drop 24).take 24).all (fun c => isCode c || c.before args0 about1) = true := by decide +kernel
theorem w_t3 : (((words1.drop 24).drop 24).take 24).all (fun c => isCode c || c.before args0 about1) = true := by decide +kernel
theorem w_t4 : ((((words1.drop 24).drop 24).drop 24).take 24).all (fun c => isCode c || c.before args0 about1) = true := by decide +kernel
theorem w_t5 : (((((words1.drop 24).drop 24).drop 24).drop 24).take 24).all (fun c => isCode c || c.before args0 about1) = true := by decide +kernel
theorem w_t6 : ((((((words1.drop 24).drop 24).drop 24).drop 24).drop 24).take 24).all (fun c => isCode c || c.before args0 about1) = true := by decide +kernel
theorem w_t7 : (((((((words1.drop 24).drop 24).drop 24).drop 24).drop 24).drop 24).take 24).all (fun c => isCode c || c.before args0 about1) = true := by decide +kernel
theorem w_t8 : ((((((((words1.drop 24).drop 24).drop 24).drop 24).drop 24).drop 24).drop 24).take 24).all (fun c => isCode c || c.before args0 about1) = true := by decide +kernel
theorem w_t9 : (((((((((words1.drop 24).drop 24).drop 24).drop 24).drop 24).drop 24).drop 24).drop 24).take 24).all (fun c => isCode c || c.before args0 about1) = true := by decide +kernel
theorem w_t10 : ((((((((((words1.drop 24).drop 24).drop 24).drop 24).drop 24).drop 24).drop 24).drop 24).drop 24).take 24).all (fun c => isCode c || c.before args0 about1) = true := by decide +kernel
theorem w_t11 : (((((((((((words1.drop 24).drop 24).drop 24).drop 24).drop 24).drop 24).drop 24).drop 24).drop 24).drop 24).take 24).all (fun c => isCode c || c.before args0 about1) = true := by decide +kernel
theorem w_t12 : ((((((((((((words1.drop 24).drop 24).drop 24).drop 24).drop 24).drop 24).drop 24).drop 24).drop 24).drop 24).drop 24).take 24).all (fun c => isCode c || c.before args0 about1) = true := by decide +kernel
theorem w_t13 : ((((((((((((words1.drop 24).drop 24).drop 24).drop 24).drop 24).drop 24).drop 24).drop 24).drop 24).drop 24).drop 24).drop 24).all (fun c => isCode c || c.before args0 about1) = true := by decide +kernel
theorem w_tables : (allAtoms (Jvm.Cond.code x code maxLocals ret :: tables_1)).before args0 about1 = true := by
  rw [allAtoms_all]
  show words1.all (fun c => c.before args0 about1) = true
  refine all_split ?_ w_codes
  rw [← List.take_append_drop 24 words1, List.all_append, w_t1, ← List.take_append_drop 24 (words1.drop 24), List.all_append, w_t2, ← List.take_append_drop 24 ((words1.drop 24).drop 24), List.all_append, w_t3, ← List.take_append_drop 24 (((words1.drop 24).drop 24).drop 24), List.all_append, w_t4, ← List.take_append_drop 24 ((((words1.drop 24).drop 24).drop 24).drop 24), List.all_append, w_t5, ← List.take_append_drop 24 (((((words1.drop 24).drop 24).drop 24).drop 24).drop 24), List.all_append, w_t6, ← List.take_append_drop 24 ((((((words1.drop 24).drop 24).drop 24).drop 24).drop 24).drop 24), List.all_append, w_t7, ← List.take_append_drop 24 (((((((words1.drop 24).drop 24).drop 24).drop 24).drop 24).drop 24).drop 24), List.all_append, w_t8, ← List.take_append_drop 24 ((((((((words1.drop 24).drop 24).drop 24).drop 24).drop 24).drop 24).drop 24).drop 24), List.all_append, w_t9, ← List.take_append_drop 24 (((((((((words1.drop 24).drop 24).drop 24).drop 24).drop 24).drop 24).drop 24).drop 24).drop 24), List.all_append, w_t10, ← List.take_append_drop 24 ((((((((((words1.drop 24).drop 24).drop 24).drop 24).drop 24).drop 24).drop 24).drop 24).drop 24).drop 24), List.all_append, w_t11, ← List.take_append_drop 24 (((((((((((words1.drop 24).drop 24).drop 24).drop 24).drop 24).drop 24).drop 24).drop 24).drop 24).drop 24).drop 24), List.all_append, w_t12, w_t13]
  rfl
theorem w_rest : rest_1_c.before args0 about1 = true := by decide +kernel
theorem w_case : (Jvm.Cond.and given_1 narrow_1).before args0 about1 = true := by decide +kernel
theorem w_consts : constsHeld consts_1 about1 := Jvm.Lit.constsHeldB_iff.mp (by decide +kernel)
theorem w_applies : (headSpec (Jvm.Cond.code x code maxLocals ret :: tables_1) room_1).applies x e0.platform about1 = true :=
  (Spec.applies_iff w_frames).mpr ⟨w_running, w_runnable, w_alone, w_named, w_hears, w_ripe, w_room, w_tables⟩
theorem atStart : AtStart classFile x code maxLocals ret World_1 tables_1 room_1 Calls_1 rest_1 Pre_1 launch0 p0 e0 about1 theMethod args0 below0 :=
  ⟨lists_1, trivial, launch0.admits_env _ _ _, launch0.least_env, fairChoices_fair.cas, fairChoices_fair.clock, w_frames, w_args, w_heap, w_applies, ⟨(by decide +kernel : framesKnown about1 = true), ⟨(by decide +kernel : tablesKnown about1 = true), ⟨w_consts, trivial⟩⟩⟩, w_rest, w_case⟩
end start1
theorem witness_1 : WitnessClaimed_1 := ⟨start1.p0, start1.e0, start1.about1, start1.theMethod, start1.args0, start1.below0, start1.atStart⟩
end Jvm.Pilot.@@N@@
