import JvmDerived
import JvmDerived.Pilot.@@N@@Statement
import JvmDerived.Pilot.@@N@@Code
set_option linter.unusedVariables false
set_option linter.unusedSimpArgs false

namespace Jvm.OwnKit
open Sem ClassFile Op Lib Jvm.Stand Jvm.Free Jvm.LawKit Jvm.RoadKit Jvm.Free.Fl
/-- what is left to show of a run: from U it ends and returns, with E of the value, the end and the places written -/
def Goes (p : Program) (e : Env) (below : List Frame) (E : Option Value → State → List Loc → Prop) (U : State) : Prop :=
  ∃ s₂ v L, Steps p.tables e below U s₂ ∧ s₂.status = .running ∧ Ended s₂ below (.returned v) ∧ E v s₂ L
/-- the common end: nothing below n0 is written, Q holds of the value and the heap, the frame is k cells and j slots -/
def En (s : State) (n0 k j : Nat) (Q : Option Value → Heap → Prop) (v : Option Value) (s₂ : State) (L : List Loc) : Prop := (Fr n0 L ∧ Q v s₂.heap) ∧ FrameEnd s (.returned v) s₂ L k j
/-- where a walk of the body y stands -/
def Wk (Z : State) (y : MethodName) (bytes : ByteArray) (ml : Nat) (ret : Option FieldType) (n0 : Nat) (p : Program) (l : Launch) (e : Env) (R : Room) (s : State) (m : MethodId) (args : Array Value) (below : List Frame) (meth : Method) (c : Code) (T : State) (kc ks : Nat) : Prop :=
  (p.tables.exec = Jvm.exec ∧ Z.Warmed39 s.vm ∧ s.vm.findClass y.cls = some m.cls ∧ c.code = bytes ∧ c.maxLocals = ml ∧ meth.sig.returnType = ret ∧ meth.locks = false ∧ meth.name = y.name) ∧ ∃ locs, Stand p l e R s m args below meth c T locs kc ks ∧ Fr n0 locs
/-- a body's contract: called with the values as over the heap h0 it returns with Post -/
def Con (l : Launch) (Z : State) (n0 : Nat) (y : MethodName) (ws : List Cond) (bytes : ByteArray) (ml : Nat) (ret : Option FieldType) (rm : Room) (as : Array Value) (h0 : Heap) (Post : Option Value → Heap → Prop) : Prop :=
  MetFree l y (head1 (Cond.code y bytes ml ret :: ws) rm) (fun a U => a = as ∧ Z.Warmed39 U.vm ∧ U.heap = h0) (fun _ _ _ _ _ => True) (fun _ U o U' => ∃ v L, o = .returned v ∧ (Fr n0 L ∧ Post v U'.heap) ∧ FrameEnd U o U' L rm.cells rm.slots)
section Laws
variable {Z : State} {y : MethodName} {bytes : ByteArray} {ml : Nat} {ret : Option FieldType} {n0 : Nat} {p : Program} {l : Launch} {e : Env} {R : Room} {s : State} {m : MethodId} {args : Array Value} {below : List Frame} {meth : Method} {c : Code} {T : State} {kc ks k j : Nat} {Q : Option Value → Heap → Prop} {E : Option Value → State → List Loc → Prop} {pc pc' : Nat} {ls : Array Slot} {st : List Value} {a0 : Array Value}
theorem Goes.back {U U' : State} (g : Goes p e below E U') (h : ∀ t, Steps p.tables e below U' t → Steps p.tables e below U t) : Goes p e below E U := by
  obtain ⟨s₂, v, L, h1, h2⟩ := g; exact ⟨s₂, v, L, h _ h1, h2⟩
theorem Goes.mono {U : State} {E' : Option Value → State → List Loc → Prop} (g : Goes p e below E U) (h : ∀ v t L, E v t L → E' v t L) : Goes p e below E' U := by
  obtain ⟨s₂, v, L, h1, h2, h3, h4⟩ := g; exact ⟨s₂, v, L, h1, h2, h3, h _ _ _ h4⟩
theorem Con.mono {ws : List Cond} {rm : Room} {as : Array Value} {h0 : Heap} {Post Post' : Option Value → Heap → Prop} (C : Con l Z n0 y ws bytes ml ret rm as h0 Post) (h : ∀ v h, Post v h → Post' v h) : Con l Z n0 y ws bytes ml ret rm as h0 Post' := by
  intro p e ha hc hk s m args below hf happ hP hK
  obtain ⟨a, b, h1, h2, h3, v, L, h4, ⟨h5, h6⟩, h7⟩ := C p e ha hc hk s m args below hf happ hP hK
  exact ⟨a, b, h1, h2, h3, v, L, h4, ⟨h5, h _ _ h6⟩, h7⟩

theorem Wk.hx (W : Wk Z y bytes ml ret n0 p l e R s m args below meth c T kc ks) : p.tables.exec = Jvm.exec := W.1.1
theorem Wk.hZ (W : Wk Z y bytes ml ret n0 p l e R s m args below meth c T kc ks) : Z.Warmed39 s.vm := W.1.2.1
theorem Wk.hown (W : Wk Z y bytes ml ret n0 p l e R s m args below meth c T kc ks) : s.vm.findClass y.cls = some m.cls := W.1.2.2.1
theorem Wk.hby (W : Wk Z y bytes ml ret n0 p l e R s m args below meth c T kc ks) : c.code = bytes := W.1.2.2.2.1
theorem Wk.hml (W : Wk Z y bytes ml ret n0 p l e R s m args below meth c T kc ks) : c.maxLocals = ml := W.1.2.2.2.2.1
theorem Wk.hret (W : Wk Z y bytes ml ret n0 p l e R s m args below meth c T kc ks) : meth.sig.returnType = ret := W.1.2.2.2.2.2.1
theorem Wk.hlk (W : Wk Z y bytes ml ret n0 p l e R s m args below meth c T kc ks) : meth.locks = false := W.1.2.2.2.2.2.2.1
theorem Wk.hnm (W : Wk Z y bytes ml ret n0 p l e R s m args below meth c T kc ks) : meth.name = y.name := W.1.2.2.2.2.2.2.2
theorem Wk.here (W : Wk Z y bytes ml ret n0 p l e R s m args below meth c T kc ks) : At T m c below := by obtain ⟨_, _, X, _⟩ := W; exact X.here
theorem g_iloadN (W : Wk Z y bytes ml ret n0 p l e R s m args below meth c T kc ks) {i : Fin 4} {v : Int32} (hd : decode bytes pc = .ok (.iload_n i, 1)) (hpc : pc + 1 = pc') (hl : ls[i.val]? = some (.val (.int v))) (K : Goes p e below E (T.setTop (mkF m pc' ls (.int v :: st)))) : Goes p e below E (T.setTop (mkF m pc ls st)) := by
  subst hpc; exact K.back fun _ r => XS.iloadN W.here W.hx rfl (hb W.hby hd) hl r
theorem g_iload (W : Wk Z y bytes ml ret n0 p l e R s m args below meth c T kc ks) {i : Nat} {v : Int32} (hd : decode bytes pc = .ok (.iload i, 2)) (hpc : pc + 2 = pc') (hl : ls[i]? = some (.val (.int v))) (K : Goes p e below E (T.setTop (mkF m pc' ls (.int v :: st)))) : Goes p e below E (T.setTop (mkF m pc ls st)) := by
  subst hpc; exact K.back fun _ r => XS.iload W.here W.hx rfl (hb W.hby hd) hl r
theorem g_lloadN (W : Wk Z y bytes ml ret n0 p l e R s m args below meth c T kc ks) {i : Fin 4} {v : Int64} (hd : decode bytes pc = .ok (.lload_n i, 1)) (hpc : pc + 1 = pc') (hl : ls[i.val]? = some (.val (.long v))) (K : Goes p e below E (T.setTop (mkF m pc' ls (.long v :: st)))) : Goes p e below E (T.setTop (mkF m pc ls st)) := by
  subst hpc; exact K.back fun _ r => XT.lloadN W.here W.hx rfl (hb W.hby hd) hl r
theorem g_lload (W : Wk Z y bytes ml ret n0 p l e R s m args below meth c T kc ks) {i : Nat} {v : Int64} (hd : decode bytes pc = .ok (.lload i, 2)) (hpc : pc + 2 = pc') (hl : ls[i]? = some (.val (.long v))) (K : Goes p e below E (T.setTop (mkF m pc' ls (.long v :: st)))) : Goes p e below E (T.setTop (mkF m pc ls st)) := by
  subst hpc; exact K.back fun _ r => XT.lload W.here W.hx rfl (hb W.hby hd) hl r
theorem g_dloadN (W : Wk Z y bytes ml ret n0 p l e R s m args below meth c T kc ks) {i : Fin 4} {v : UInt64} (hd : decode bytes pc = .ok (.dload_n i, 1)) (hpc : pc + 1 = pc') (hl : ls[i.val]? = some (.val (.double v))) (K : Goes p e below E (T.setTop (mkF m pc' ls (.double v :: st)))) : Goes p e below E (T.setTop (mkF m pc ls st)) := by
  subst hpc; exact K.back fun _ r => XS.dloadN W.here W.hx rfl (hb W.hby hd) hl r
theorem g_dload (W : Wk Z y bytes ml ret n0 p l e R s m args below meth c T kc ks) {i : Nat} {v : UInt64} (hd : decode bytes pc = .ok (.dload i, 2)) (hpc : pc + 2 = pc') (hl : ls[i]? = some (.val (.double v))) (K : Goes p e below E (T.setTop (mkF m pc' ls (.double v :: st)))) : Goes p e below E (T.setTop (mkF m pc ls st)) := by
  subst hpc; exact K.back fun _ r => XS.dload W.here W.hx rfl (hb W.hby hd) hl r
theorem g_floadN (W : Wk Z y bytes ml ret n0 p l e R s m args below meth c T kc ks) {i : Fin 4} {v : UInt32} (hd : decode bytes pc = .ok (.fload_n i, 1)) (hpc : pc + 1 = pc') (hl : ls[i.val]? = some (.val (.float v))) (K : Goes p e below E (T.setTop (mkF m pc' ls (.float v :: st)))) : Goes p e below E (T.setTop (mkF m pc ls st)) := by
  subst hpc; exact K.back fun _ r => XS.floadN W.here W.hx rfl (hb W.hby hd) hl r
theorem g_fload (W : Wk Z y bytes ml ret n0 p l e R s m args below meth c T kc ks) {i : Nat} {v : UInt32} (hd : decode bytes pc = .ok (.fload i, 2)) (hpc : pc + 2 = pc') (hl : ls[i]? = some (.val (.float v))) (K : Goes p e below E (T.setTop (mkF m pc' ls (.float v :: st)))) : Goes p e below E (T.setTop (mkF m pc ls st)) := by
  subst hpc; exact K.back fun _ r => XS.fload W.here W.hx rfl (hb W.hby hd) hl r
theorem g_aloadN (W : Wk Z y bytes ml ret n0 p l e R s m args below meth c T kc ks) {i : Fin 4} {v : Value} (hd : decode bytes pc = .ok (.aload_n i, 1)) (hpc : pc + 1 = pc') (hl : ls[i.val]? = some (.val v)) (hv : v.isRef = true) (K : Goes p e below E (T.setTop (mkF m pc' ls (v :: st)))) : Goes p e below E (T.setTop (mkF m pc ls st)) := by
  subst hpc; exact K.back fun _ r => XS.aloadN W.here W.hx rfl (hb W.hby hd) hl hv r
theorem g_aload (W : Wk Z y bytes ml ret n0 p l e R s m args below meth c T kc ks) {i : Nat} {v : Value} (hd : decode bytes pc = .ok (.aload i, 2)) (hpc : pc + 2 = pc') (hl : ls[i]? = some (.val v)) (hv : v.isRef = true) (K : Goes p e below E (T.setTop (mkF m pc' ls (v :: st)))) : Goes p e below E (T.setTop (mkF m pc ls st)) := by
  subst hpc; exact K.back fun _ r => XS.aload W.here W.hx rfl (hb W.hby hd) hl hv r
theorem g_istoreN (W : Wk Z y bytes ml ret n0 p l e R s m args below meth c T kc ks) {i : Fin 4} {v : Int32} {ls' : Array Slot} (hd : decode bytes pc = .ok (.istore_n i, 1)) (hpc : pc + 1 = pc') (hl : storeLocals ls i.val (.int v) = some ls') (K : Goes p e below E (T.setTop (mkF m pc' ls' st))) : Goes p e below E (T.setTop (mkF m pc ls (.int v :: st))) := by
  subst hpc; exact K.back fun _ r => XS.istoreN W.here W.hx rfl (hb W.hby hd) rfl hl r
theorem g_istore (W : Wk Z y bytes ml ret n0 p l e R s m args below meth c T kc ks) {i : Nat} {v : Int32} {ls' : Array Slot} (hd : decode bytes pc = .ok (.istore i, 2)) (hpc : pc + 2 = pc') (hl : storeLocals ls i (.int v) = some ls') (K : Goes p e below E (T.setTop (mkF m pc' ls' st))) : Goes p e below E (T.setTop (mkF m pc ls (.int v :: st))) := by
  subst hpc; exact K.back fun _ r => XS.istore W.here W.hx rfl (hb W.hby hd) rfl hl r
theorem g_lstoreN (W : Wk Z y bytes ml ret n0 p l e R s m args below meth c T kc ks) {i : Fin 4} {v : Int64} {ls' : Array Slot} (hd : decode bytes pc = .ok (.lstore_n i, 1)) (hpc : pc + 1 = pc') (hl : storeLocals ls i.val (.long v) = some ls') (K : Goes p e below E (T.setTop (mkF m pc' ls' st))) : Goes p e below E (T.setTop (mkF m pc ls (.long v :: st))) := by
  subst hpc; exact K.back fun _ r => XT.lstoreN W.here W.hx rfl (hb W.hby hd) rfl hl r
theorem g_lstore (W : Wk Z y bytes ml ret n0 p l e R s m args below meth c T kc ks) {i : Nat} {v : Int64} {ls' : Array Slot} (hd : decode bytes pc = .ok (.lstore i, 2)) (hpc : pc + 2 = pc') (hl : storeLocals ls i (.long v) = some ls') (K : Goes p e below E (T.setTop (mkF m pc' ls' st))) : Goes p e below E (T.setTop (mkF m pc ls (.long v :: st))) := by
  subst hpc; exact K.back fun _ r => XT.lstore W.here W.hx rfl (hb W.hby hd) rfl hl r
theorem g_dstoreN (W : Wk Z y bytes ml ret n0 p l e R s m args below meth c T kc ks) {i : Fin 4} {v : UInt64} {ls' : Array Slot} (hd : decode bytes pc = .ok (.dstore_n i, 1)) (hpc : pc + 1 = pc') (hl : storeLocals ls i.val (.double v) = some ls') (K : Goes p e below E (T.setTop (mkF m pc' ls' st))) : Goes p e below E (T.setTop (mkF m pc ls (.double v :: st))) := by
  subst hpc; exact K.back fun _ r => XS.dstoreN W.here W.hx rfl (hb W.hby hd) rfl hl r
theorem g_dstore (W : Wk Z y bytes ml ret n0 p l e R s m args below meth c T kc ks) {i : Nat} {v : UInt64} {ls' : Array Slot} (hd : decode bytes pc = .ok (.dstore i, 2)) (hpc : pc + 2 = pc') (hl : storeLocals ls i (.double v) = some ls') (K : Goes p e below E (T.setTop (mkF m pc' ls' st))) : Goes p e below E (T.setTop (mkF m pc ls (.double v :: st))) := by
  subst hpc; exact K.back fun _ r => XS.dstore W.here W.hx rfl (hb W.hby hd) rfl hl r
theorem g_fstoreN (W : Wk Z y bytes ml ret n0 p l e R s m args below meth c T kc ks) {i : Fin 4} {v : UInt32} {ls' : Array Slot} (hd : decode bytes pc = .ok (.fstore_n i, 1)) (hpc : pc + 1 = pc') (hl : storeLocals ls i.val (.float v) = some ls') (K : Goes p e below E (T.setTop (mkF m pc' ls' st))) : Goes p e below E (T.setTop (mkF m pc ls (.float v :: st))) := by
  subst hpc; exact K.back fun _ r => XS.fstoreN W.here W.hx rfl (hb W.hby hd) rfl hl r
theorem g_fstore (W : Wk Z y bytes ml ret n0 p l e R s m args below meth c T kc ks) {i : Nat} {v : UInt32} {ls' : Array Slot} (hd : decode bytes pc = .ok (.fstore i, 2)) (hpc : pc + 2 = pc') (hl : storeLocals ls i (.float v) = some ls') (K : Goes p e below E (T.setTop (mkF m pc' ls' st))) : Goes p e below E (T.setTop (mkF m pc ls (.float v :: st))) := by
  subst hpc; exact K.back fun _ r => XS.fstore W.here W.hx rfl (hb W.hby hd) rfl hl r
theorem g_astoreN (W : Wk Z y bytes ml ret n0 p l e R s m args below meth c T kc ks) {i : Fin 4} {v : Value} {ls' : Array Slot} (hd : decode bytes pc = .ok (.astore_n i, 1)) (hpc : pc + 1 = pc') (hv : v.isRef = true) (hl : storeLocals ls i.val v = some ls') (K : Goes p e below E (T.setTop (mkF m pc' ls' st))) : Goes p e below E (T.setTop (mkF m pc ls (v :: st))) := by
  subst hpc; exact K.back fun _ r => XS.astoreN W.here W.hx rfl (hb W.hby hd) rfl hv hl r
theorem g_astore (W : Wk Z y bytes ml ret n0 p l e R s m args below meth c T kc ks) {i : Nat} {v : Value} {ls' : Array Slot} (hd : decode bytes pc = .ok (.astore i, 2)) (hpc : pc + 2 = pc') (hv : v.isRef = true) (hl : storeLocals ls i v = some ls') (K : Goes p e below E (T.setTop (mkF m pc' ls' st))) : Goes p e below E (T.setTop (mkF m pc ls (v :: st))) := by
  subst hpc; exact K.back fun _ r => XS.astore W.here W.hx rfl (hb W.hby hd) rfl hv hl r
theorem g_iconst (W : Wk Z y bytes ml ret n0 p l e R s m args below meth c T kc ks) {i : Int} {v : Int32} (hd : decode bytes pc = .ok (.iconst i, 1)) (hpc : pc + 1 = pc') (hv : Int32.ofInt i = v) (K : Goes p e below E (T.setTop (mkF m pc' ls (.int v :: st)))) : Goes p e below E (T.setTop (mkF m pc ls st)) := by
  subst hpc; exact K.back fun _ r => XS.iconst W.here W.hx rfl (hb W.hby hd) (by rw [hv]; exact r)
theorem g_bipush (W : Wk Z y bytes ml ret n0 p l e R s m args below meth c T kc ks) {i : Int} {v : Int32} (hd : decode bytes pc = .ok (.bipush i, 2)) (hpc : pc + 2 = pc') (hv : (Int8.ofInt i).toInt32 = v) (K : Goes p e below E (T.setTop (mkF m pc' ls (.int v :: st)))) : Goes p e below E (T.setTop (mkF m pc ls st)) := by
  subst hpc; exact K.back fun _ r => XS.bipush W.here W.hx rfl (hb W.hby hd) (by rw [hv]; exact r)
theorem g_sipush (W : Wk Z y bytes ml ret n0 p l e R s m args below meth c T kc ks) {i : Int} {v : Int32} (hd : decode bytes pc = .ok (.sipush i, 3)) (hpc : pc + 3 = pc') (hv : (Int16.ofInt i).toInt32 = v) (K : Goes p e below E (T.setTop (mkF m pc' ls (.int v :: st)))) : Goes p e below E (T.setTop (mkF m pc ls st)) := by
  subst hpc; exact K.back fun _ r => XS.sipush W.here W.hx rfl (hb W.hby hd) (by rw [hv]; exact r)
theorem g_lconst (W : Wk Z y bytes ml ret n0 p l e R s m args below meth c T kc ks) {i : Fin 2} {v : Int64} (hd : decode bytes pc = .ok (.lconst i, 1)) (hpc : pc + 1 = pc') (hv : Int64.ofNat i = v) (K : Goes p e below E (T.setTop (mkF m pc' ls (.long v :: st)))) : Goes p e below E (T.setTop (mkF m pc ls st)) := by
  subst hpc; exact K.back fun _ r => XT.lconst W.here W.hx rfl (hb W.hby hd) (by rw [hv]; exact r)
theorem g_dconst0 (W : Wk Z y bytes ml ret n0 p l e R s m args below meth c T kc ks)  (hd : decode bytes pc = .ok (.dconst 0, 1)) (hpc : pc + 1 = pc')  (K : Goes p e below E (T.setTop (mkF m pc' ls (.double 0 :: st)))) : Goes p e below E (T.setTop (mkF m pc ls st)) := by
  subst hpc; exact K.back fun _ r => XS.dconst0 W.here W.hx rfl (hb W.hby hd) rfl r
theorem g_dconst1 (W : Wk Z y bytes ml ret n0 p l e R s m args below meth c T kc ks)  (hd : decode bytes pc = .ok (.dconst 1, 1)) (hpc : pc + 1 = pc')  (K : Goes p e below E (T.setTop (mkF m pc' ls (.double 4607182418800017408 :: st)))) : Goes p e below E (T.setTop (mkF m pc ls st)) := by
  subst hpc; exact K.back fun _ r => XS.dconst1 W.here W.hx rfl (hb W.hby hd) rfl r
theorem g_aconst_null (W : Wk Z y bytes ml ret n0 p l e R s m args below meth c T kc ks)  (hd : decode bytes pc = .ok (.aconst_null, 1)) (hpc : pc + 1 = pc')  (K : Goes p e below E (T.setTop (mkF m pc' ls (.null :: st)))) : Goes p e below E (T.setTop (mkF m pc ls st)) := by
  subst hpc; exact K.back fun _ r => XS.aconstNull W.here W.hx rfl (hb W.hby hd) r
theorem g_iadd (W : Wk Z y bytes ml ret n0 p l e R s m args below meth c T kc ks) {x y0 v : Int32} (hd : decode bytes pc = .ok (.iadd, 1)) (hpc : pc + 1 = pc') (hv : x + y0 = v) (K : Goes p e below E (T.setTop (mkF m pc' ls (.int v :: st)))) : Goes p e below E (T.setTop (mkF m pc ls (.int y0 :: .int x :: st))) := by
  subst hpc; exact K.back fun _ r => XS.iadd W.here W.hx rfl (hb W.hby hd) rfl (by rw [hv]; exact r)
theorem g_isub (W : Wk Z y bytes ml ret n0 p l e R s m args below meth c T kc ks) {x y0 v : Int32} (hd : decode bytes pc = .ok (.isub, 1)) (hpc : pc + 1 = pc') (hv : x - y0 = v) (K : Goes p e below E (T.setTop (mkF m pc' ls (.int v :: st)))) : Goes p e below E (T.setTop (mkF m pc ls (.int y0 :: .int x :: st))) := by
  subst hpc; exact K.back fun _ r => XS.isub W.here W.hx rfl (hb W.hby hd) rfl (by rw [hv]; exact r)
theorem g_iand (W : Wk Z y bytes ml ret n0 p l e R s m args below meth c T kc ks) {x y0 v : Int32} (hd : decode bytes pc = .ok (.iand, 1)) (hpc : pc + 1 = pc') (hv : x &&& y0 = v) (K : Goes p e below E (T.setTop (mkF m pc' ls (.int v :: st)))) : Goes p e below E (T.setTop (mkF m pc ls (.int y0 :: .int x :: st))) := by
  subst hpc; exact K.back fun _ r => XS.iand W.here W.hx rfl (hb W.hby hd) rfl (by rw [hv]; exact r)
theorem g_imul (W : Wk Z y bytes ml ret n0 p l e R s m args below meth c T kc ks) {x y0 v : Int32} (hd : decode bytes pc = .ok (.imul, 1)) (hpc : pc + 1 = pc') (hv : x * y0 = v) (K : Goes p e below E (T.setTop (mkF m pc' ls (.int v :: st)))) : Goes p e below E (T.setTop (mkF m pc ls (.int y0 :: .int x :: st))) := by
  subst hpc; exact K.back fun _ r => XS.imul W.here W.hx rfl (hb W.hby hd) rfl (by rw [hv]; exact r)
theorem g_ixor (W : Wk Z y bytes ml ret n0 p l e R s m args below meth c T kc ks) {x y0 v : Int32} (hd : decode bytes pc = .ok (.ixor, 1)) (hpc : pc + 1 = pc') (hv : x ^^^ y0 = v) (K : Goes p e below E (T.setTop (mkF m pc' ls (.int v :: st)))) : Goes p e below E (T.setTop (mkF m pc ls (.int y0 :: .int x :: st))) := by
  subst hpc; exact K.back fun _ r => XT.ixor W.here W.hx rfl (hb W.hby hd) rfl (by rw [hv]; exact r)
theorem g_ior (W : Wk Z y bytes ml ret n0 p l e R s m args below meth c T kc ks) {x y0 v : Int32} (hd : decode bytes pc = .ok (.ior, 1)) (hpc : pc + 1 = pc') (hv : x ||| y0 = v) (K : Goes p e below E (T.setTop (mkF m pc' ls (.int v :: st)))) : Goes p e below E (T.setTop (mkF m pc ls (.int y0 :: .int x :: st))) := by
  subst hpc; exact K.back fun _ r => XT.ior W.here W.hx rfl (hb W.hby hd) rfl (by rw [hv]; exact r)
theorem g_ishl (W : Wk Z y bytes ml ret n0 p l e R s m args below meth c T kc ks) {x y0 v : Int32} (hd : decode bytes pc = .ok (.ishl, 1)) (hpc : pc + 1 = pc') (hv : x <<< (y0 &&& 31) = v) (K : Goes p e below E (T.setTop (mkF m pc' ls (.int v :: st)))) : Goes p e below E (T.setTop (mkF m pc ls (.int y0 :: .int x :: st))) := by
  subst hpc; exact K.back fun _ r => XT.ishl W.here W.hx rfl (hb W.hby hd) rfl (by rw [hv]; exact r)
theorem g_ishr (W : Wk Z y bytes ml ret n0 p l e R s m args below meth c T kc ks) {x y0 v : Int32} (hd : decode bytes pc = .ok (.ishr, 1)) (hpc : pc + 1 = pc') (hv : x >>> (y0 &&& 31) = v) (K : Goes p e below E (T.setTop (mkF m pc' ls (.int v :: st)))) : Goes p e below E (T.setTop (mkF m pc ls (.int y0 :: .int x :: st))) := by
  subst hpc; exact K.back fun _ r => XT.ishr W.here W.hx rfl (hb W.hby hd) rfl (by rw [hv]; exact r)
theorem g_iushr (W : Wk Z y bytes ml ret n0 p l e R s m args below meth c T kc ks) {x y0 v : Int32} (hd : decode bytes pc = .ok (.iushr, 1)) (hpc : pc + 1 = pc') (hv : XT.ushr x y0 = v) (K : Goes p e below E (T.setTop (mkF m pc' ls (.int v :: st)))) : Goes p e below E (T.setTop (mkF m pc ls (.int y0 :: .int x :: st))) := by
  subst hpc; exact K.back fun _ r => XT.iushr W.here W.hx rfl (hb W.hby hd) rfl (by rw [hv]; exact r)
theorem g_ineg (W : Wk Z y bytes ml ret n0 p l e R s m args below meth c T kc ks) {x v : Int32} (hd : decode bytes pc = .ok (.ineg, 1)) (hpc : pc + 1 = pc') (hv : -x = v) (K : Goes p e below E (T.setTop (mkF m pc' ls (.int v :: st)))) : Goes p e below E (T.setTop (mkF m pc ls (.int x :: st))) := by
  subst hpc; exact K.back fun _ r => XS.ineg W.here W.hx rfl (hb W.hby hd) rfl (by rw [hv]; exact r)
theorem g_ladd (W : Wk Z y bytes ml ret n0 p l e R s m args below meth c T kc ks) {x y0 v : Int64} (hd : decode bytes pc = .ok (.ladd, 1)) (hpc : pc + 1 = pc') (hv : x + y0 = v) (K : Goes p e below E (T.setTop (mkF m pc' ls (.long v :: st)))) : Goes p e below E (T.setTop (mkF m pc ls (.long y0 :: .long x :: st))) := by
  subst hpc; exact K.back fun _ r => XT.ladd W.here W.hx rfl (hb W.hby hd) rfl (by rw [hv]; exact r)
theorem g_lsub (W : Wk Z y bytes ml ret n0 p l e R s m args below meth c T kc ks) {x y0 v : Int64} (hd : decode bytes pc = .ok (.lsub, 1)) (hpc : pc + 1 = pc') (hv : x - y0 = v) (K : Goes p e below E (T.setTop (mkF m pc' ls (.long v :: st)))) : Goes p e below E (T.setTop (mkF m pc ls (.long y0 :: .long x :: st))) := by
  subst hpc; exact K.back fun _ r => XT.lsub W.here W.hx rfl (hb W.hby hd) rfl (by rw [hv]; exact r)
theorem g_lmul (W : Wk Z y bytes ml ret n0 p l e R s m args below meth c T kc ks) {x y0 v : Int64} (hd : decode bytes pc = .ok (.lmul, 1)) (hpc : pc + 1 = pc') (hv : x * y0 = v) (K : Goes p e below E (T.setTop (mkF m pc' ls (.long v :: st)))) : Goes p e below E (T.setTop (mkF m pc ls (.long y0 :: .long x :: st))) := by
  subst hpc; exact K.back fun _ r => XT.lmul W.here W.hx rfl (hb W.hby hd) rfl (by rw [hv]; exact r)
theorem g_land (W : Wk Z y bytes ml ret n0 p l e R s m args below meth c T kc ks) {x y0 v : Int64} (hd : decode bytes pc = .ok (.land, 1)) (hpc : pc + 1 = pc') (hv : x &&& y0 = v) (K : Goes p e below E (T.setTop (mkF m pc' ls (.long v :: st)))) : Goes p e below E (T.setTop (mkF m pc ls (.long y0 :: .long x :: st))) := by
  subst hpc; exact K.back fun _ r => XT.land W.here W.hx rfl (hb W.hby hd) rfl (by rw [hv]; exact r)
theorem g_lor (W : Wk Z y bytes ml ret n0 p l e R s m args below meth c T kc ks) {x y0 v : Int64} (hd : decode bytes pc = .ok (.lor, 1)) (hpc : pc + 1 = pc') (hv : x ||| y0 = v) (K : Goes p e below E (T.setTop (mkF m pc' ls (.long v :: st)))) : Goes p e below E (T.setTop (mkF m pc ls (.long y0 :: .long x :: st))) := by
  subst hpc; exact K.back fun _ r => XT.lor W.here W.hx rfl (hb W.hby hd) rfl (by rw [hv]; exact r)
theorem g_lxor (W : Wk Z y bytes ml ret n0 p l e R s m args below meth c T kc ks) {x y0 v : Int64} (hd : decode bytes pc = .ok (.lxor, 1)) (hpc : pc + 1 = pc') (hv : x ^^^ y0 = v) (K : Goes p e below E (T.setTop (mkF m pc' ls (.long v :: st)))) : Goes p e below E (T.setTop (mkF m pc ls (.long y0 :: .long x :: st))) := by
  subst hpc; exact K.back fun _ r => XT.lxor W.here W.hx rfl (hb W.hby hd) rfl (by rw [hv]; exact r)
theorem g_lneg (W : Wk Z y bytes ml ret n0 p l e R s m args below meth c T kc ks) {x v : Int64} (hd : decode bytes pc = .ok (.lneg, 1)) (hpc : pc + 1 = pc') (hv : -x = v) (K : Goes p e below E (T.setTop (mkF m pc' ls (.long v :: st)))) : Goes p e below E (T.setTop (mkF m pc ls (.long x :: st))) := by
  subst hpc; exact K.back fun _ r => XT.lneg W.here W.hx rfl (hb W.hby hd) rfl (by rw [hv]; exact r)
theorem g_lushr (W : Wk Z y bytes ml ret n0 p l e R s m args below meth c T kc ks) {x v : Int64} {y0 : Int32} (hd : decode bytes pc = .ok (.lushr, 1)) (hpc : pc + 1 = pc') (hv : XT.ushrL x y0 = v) (K : Goes p e below E (T.setTop (mkF m pc' ls (.long v :: st)))) : Goes p e below E (T.setTop (mkF m pc ls (.int y0 :: .long x :: st))) := by
  subst hpc; exact K.back fun _ r => XT.lushr W.here W.hx rfl (hb W.hby hd) rfl (by rw [hv]; exact r)
theorem g_lcmp (W : Wk Z y bytes ml ret n0 p l e R s m args below meth c T kc ks) {x y0 : Int64} {v : Int32} (hd : decode bytes pc = .ok (.lcmp, 1)) (hpc : pc + 1 = pc') (hv : XT.cmpL x y0 = v) (K : Goes p e below E (T.setTop (mkF m pc' ls (.int v :: st)))) : Goes p e below E (T.setTop (mkF m pc ls (.long y0 :: .long x :: st))) := by
  subst hpc; exact K.back fun _ r => XT.lcmp W.here W.hx rfl (hb W.hby hd) rfl (by rw [hv]; exact r)
theorem g_i2l (W : Wk Z y bytes ml ret n0 p l e R s m args below meth c T kc ks) {x : Int32} {v : Int64} (hd : decode bytes pc = .ok (.i2l, 1)) (hpc : pc + 1 = pc') (hv : x.toInt64 = v) (K : Goes p e below E (T.setTop (mkF m pc' ls (.long v :: st)))) : Goes p e below E (T.setTop (mkF m pc ls (.int x :: st))) := by
  subst hpc; exact K.back fun _ r => XT.i2l W.here W.hx rfl (hb W.hby hd) rfl (by rw [hv]; exact r)
theorem g_l2i (W : Wk Z y bytes ml ret n0 p l e R s m args below meth c T kc ks) {x : Int64} {v : Int32} (hd : decode bytes pc = .ok (.l2i, 1)) (hpc : pc + 1 = pc') (hv : x.toInt32 = v) (K : Goes p e below E (T.setTop (mkF m pc' ls (.int v :: st)))) : Goes p e below E (T.setTop (mkF m pc ls (.long x :: st))) := by
  subst hpc; exact K.back fun _ r => XT.l2i W.here W.hx rfl (hb W.hby hd) rfl (by rw [hv]; exact r)
theorem g_i2d (W : Wk Z y bytes ml ret n0 p l e R s m args below meth c T kc ks) {x : Int32} {v : UInt64} (hd : decode bytes pc = .ok (.i2d, 1)) (hpc : pc + 1 = pc') (hv : FP.i2d x = v) (K : Goes p e below E (T.setTop (mkF m pc' ls (.double v :: st)))) : Goes p e below E (T.setTop (mkF m pc ls (.int x :: st))) := by
  subst hpc; exact K.back fun _ r => XS.i2dS W.here W.hx rfl (hb W.hby hd) rfl hv r
theorem g_l2d (W : Wk Z y bytes ml ret n0 p l e R s m args below meth c T kc ks) {x : Int64} {v : UInt64} (hd : decode bytes pc = .ok (.l2d, 1)) (hpc : pc + 1 = pc') (hv : FP.l2d x = v) (K : Goes p e below E (T.setTop (mkF m pc' ls (.double v :: st)))) : Goes p e below E (T.setTop (mkF m pc ls (.long x :: st))) := by
  subst hpc; exact K.back fun _ r => XS.l2dS W.here W.hx rfl (hb W.hby hd) rfl hv r
theorem g_dneg (W : Wk Z y bytes ml ret n0 p l e R s m args below meth c T kc ks) {x v : UInt64} (hd : decode bytes pc = .ok (.dneg, 1)) (hpc : pc + 1 = pc') (hv : FP.dneg x = v) (K : Goes p e below E (T.setTop (mkF m pc' ls (.double v :: st)))) : Goes p e below E (T.setTop (mkF m pc ls (.double x :: st))) := by
  subst hpc; exact K.back fun _ r => XS.dnegS W.here W.hx rfl (hb W.hby hd) rfl hv r
theorem g_dcmp (W : Wk Z y bytes ml ret n0 p l e R s m args below meth c T kc ks) {o : CmpOp} {x y0 : UInt64} {v : Int32} (hd : decode bytes pc = .ok (.dcmp o, 1)) (hpc : pc + 1 = pc') (hv : cmpValue (FP.dcmp x y0) o = v) (K : Goes p e below E (T.setTop (mkF m pc' ls (.int v :: st)))) : Goes p e below E (T.setTop (mkF m pc ls (.double y0 :: .double x :: st))) := by
  subst hpc; exact K.back fun _ r => XS.dcmpS W.here W.hx rfl (hb W.hby hd) rfl hv r
theorem g_dadd (W : Wk Z y bytes ml ret n0 p l e R s m args below meth c T kc ks) {x y0 v : UInt64} (hd : decode bytes pc = .ok (.dadd, 1)) (hpc : pc + 1 = pc') (hv : FP.dadd x y0 = v) (hn : NoNaN64 v) (K : Goes p e below E (T.setTop (mkF m pc' ls (.double v :: st)))) : Goes p e below E (T.setTop (mkF m pc ls (.double y0 :: .double x :: st))) := by
  subst hpc; exact K.back fun _ r => XS.daddS W.here W.hx rfl (hb W.hby hd) rfl (by rw [hv]; exact hn) hv r
theorem g_dsub (W : Wk Z y bytes ml ret n0 p l e R s m args below meth c T kc ks) {x y0 v : UInt64} (hd : decode bytes pc = .ok (.dsub, 1)) (hpc : pc + 1 = pc') (hv : FP.dsub x y0 = v) (hn : NoNaN64 v) (K : Goes p e below E (T.setTop (mkF m pc' ls (.double v :: st)))) : Goes p e below E (T.setTop (mkF m pc ls (.double y0 :: .double x :: st))) := by
  subst hpc; exact K.back fun _ r => XS.dsubS W.here W.hx rfl (hb W.hby hd) rfl (by rw [hv]; exact hn) hv r
theorem g_dmul (W : Wk Z y bytes ml ret n0 p l e R s m args below meth c T kc ks) {x y0 v : UInt64} (hd : decode bytes pc = .ok (.dmul, 1)) (hpc : pc + 1 = pc') (hv : FP.dmul x y0 = v) (hn : NoNaN64 v) (K : Goes p e below E (T.setTop (mkF m pc' ls (.double v :: st)))) : Goes p e below E (T.setTop (mkF m pc ls (.double y0 :: .double x :: st))) := by
  subst hpc; exact K.back fun _ r => XS.dmulS W.here W.hx rfl (hb W.hby hd) rfl (by rw [hv]; exact hn) hv r
theorem g_ddiv (W : Wk Z y bytes ml ret n0 p l e R s m args below meth c T kc ks) {x y0 v : UInt64} (hd : decode bytes pc = .ok (.ddiv, 1)) (hpc : pc + 1 = pc') (hv : FP.ddiv x y0 = v) (hn : NoNaN64 v) (K : Goes p e below E (T.setTop (mkF m pc' ls (.double v :: st)))) : Goes p e below E (T.setTop (mkF m pc ls (.double y0 :: .double x :: st))) := by
  subst hpc; exact K.back fun _ r => XS.ddivS W.here W.hx rfl (hb W.hby hd) rfl (by rw [hv]; exact hn) hv r
theorem g_dup (W : Wk Z y bytes ml ret n0 p l e R s m args below meth c T kc ks) {v : Value} (hd : decode bytes pc = .ok (.dup, 1)) (hpc : pc + 1 = pc') (hc : v.category = 1) (K : Goes p e below E (T.setTop (mkF m pc' ls (v :: v :: st)))) : Goes p e below E (T.setTop (mkF m pc ls (v :: st))) := by
  subst hpc; exact K.back fun _ r => XS.dup W.here W.hx rfl (hb W.hby hd) rfl hc r
theorem g_pop (W : Wk Z y bytes ml ret n0 p l e R s m args below meth c T kc ks) {v : Value} (hd : decode bytes pc = .ok (.pop, 1)) (hpc : pc + 1 = pc') (hc : v.category = 1) (K : Goes p e below E (T.setTop (mkF m pc' ls st))) : Goes p e below E (T.setTop (mkF m pc ls (v :: st))) := by
  subst hpc; exact K.back fun _ r => XT.pop W.here W.hx rfl (hb W.hby hd) rfl hc r
theorem g_dup_x1 (W : Wk Z y bytes ml ret n0 p l e R s m args below meth c T kc ks) {v w : Value} (hd : decode bytes pc = .ok (.dup_x1, 1)) (hpc : pc + 1 = pc') (hc : v.category = 1) (hc2 : w.category = 1) (K : Goes p e below E (T.setTop (mkF m pc' ls (v :: w :: v :: st)))) : Goes p e below E (T.setTop (mkF m pc ls (v :: w :: st))) := by
  subst hpc; exact K.back fun _ r => XT.dupX1 W.here W.hx rfl (hb W.hby hd) rfl hc hc2 r
theorem g_dup2 (W : Wk Z y bytes ml ret n0 p l e R s m args below meth c T kc ks) {v w : Value} (hd : decode bytes pc = .ok (.dup2, 1)) (hpc : pc + 1 = pc') (hc : v.category = 1) (hc2 : w.category = 1) (K : Goes p e below E (T.setTop (mkF m pc' ls (v :: w :: v :: w :: st)))) : Goes p e below E (T.setTop (mkF m pc ls (v :: w :: st))) := by
  subst hpc; exact K.back fun _ r => XT.dup2 W.here W.hx rfl (hb W.hby hd) rfl hc hc2 r
theorem g_iinc (W : Wk Z y bytes ml ret n0 p l e R s m args below meth c T kc ks) {i : Nat} {d : Int} {x v : Int32} {ls' : Array Slot} (hd : decode bytes pc = .ok (.iinc i d, 3)) (hpc : pc + 3 = pc') (h1 : ls[i]? = some (.val (.int x))) (hv : x + Int32.ofInt d = v) (hl : storeLocals ls i (.int v) = some ls') (K : Goes p e below E (T.setTop (mkF m pc' ls' st))) : Goes p e below E (T.setTop (mkF m pc ls st)) := by
  subst hpc; exact K.back fun _ r => XS.iinc W.here W.hx rfl (hb W.hby hd) h1 (by rw [hv]; exact hl) r
theorem g_idiv (W : Wk Z y bytes ml ret n0 p l e R s m args below meth c T kc ks) {x y0 v : Int32} (hd : decode bytes pc = .ok (.idiv, 1)) (hpc : pc + 1 = pc') (h0 : y0 ≠ 0) (hv : x / y0 = v) (K : Goes p e below E (T.setTop (mkF m pc' ls (.int v :: st)))) : Goes p e below E (T.setTop (mkF m pc ls (.int y0 :: .int x :: st))) := by
  subst hpc; exact K.back fun _ r => XS.idiv W.here W.hx rfl (hb W.hby hd) rfl h0 (by rw [hv]; exact r)
theorem g_irem (W : Wk Z y bytes ml ret n0 p l e R s m args below meth c T kc ks) {x y0 v : Int32} (hd : decode bytes pc = .ok (.irem, 1)) (hpc : pc + 1 = pc') (h0 : y0 ≠ 0) (hv : x - (x / y0) * y0 = v) (K : Goes p e below E (T.setTop (mkF m pc' ls (.int v :: st)))) : Goes p e below E (T.setTop (mkF m pc ls (.int y0 :: .int x :: st))) := by
  subst hpc; exact K.back fun _ r => XS.irem W.here W.hx rfl (hb W.hby hd) rfl h0 (by rw [hv]; exact r)
theorem g_ldiv (W : Wk Z y bytes ml ret n0 p l e R s m args below meth c T kc ks) {x y0 v : Int64} (hd : decode bytes pc = .ok (.ldiv, 1)) (hpc : pc + 1 = pc') (h0 : y0 ≠ 0) (hv : x / y0 = v) (K : Goes p e below E (T.setTop (mkF m pc' ls (.long v :: st)))) : Goes p e below E (T.setTop (mkF m pc ls (.long y0 :: .long x :: st))) := by
  subst hpc; exact K.back fun _ r => XT.ldiv W.here W.hx rfl (hb W.hby hd) rfl h0 (by rw [hv]; exact r)
theorem g_lrem (W : Wk Z y bytes ml ret n0 p l e R s m args below meth c T kc ks) {x y0 v : Int64} (hd : decode bytes pc = .ok (.lrem, 1)) (hpc : pc + 1 = pc') (h0 : y0 ≠ 0) (hv : x - (x / y0) * y0 = v) (K : Goes p e below E (T.setTop (mkF m pc' ls (.long v :: st)))) : Goes p e below E (T.setTop (mkF m pc ls (.long y0 :: .long x :: st))) := by
  subst hpc; exact K.back fun _ r => XT.lrem W.here W.hx rfl (hb W.hby hd) rfl h0 (by rw [hv]; exact r)
theorem g_lshl (W : Wk Z y bytes ml ret n0 p l e R s m args below meth c T kc ks) {x v : Int64} {y0 : Int32} (hd : decode bytes pc = .ok (.lshl, 1)) (hpc : pc + 1 = pc') (hv : x <<< (y0.toInt64 &&& 63) = v) (K : Goes p e below E (T.setTop (mkF m pc' ls (.long v :: st)))) : Goes p e below E (T.setTop (mkF m pc ls (.int y0 :: .long x :: st))) := by
  subst hpc; exact K.back fun _ r => XT.lshl W.here W.hx rfl (hb W.hby hd) rfl (by rw [hv]; exact r)
theorem g_lshr (W : Wk Z y bytes ml ret n0 p l e R s m args below meth c T kc ks) {x v : Int64} {y0 : Int32} (hd : decode bytes pc = .ok (.lshr, 1)) (hpc : pc + 1 = pc') (hv : x >>> (y0.toInt64 &&& 63) = v) (K : Goes p e below E (T.setTop (mkF m pc' ls (.long v :: st)))) : Goes p e below E (T.setTop (mkF m pc ls (.int y0 :: .long x :: st))) := by
  subst hpc; exact K.back fun _ r => XT.lshr W.here W.hx rfl (hb W.hby hd) rfl (by rw [hv]; exact r)
def cP : ClassFile.Cond → Int32 → Int32 → Prop
  | .eq, x, y => x = y
  | .ne, x, y => ¬ x = y
  | .lt, x, y => x < y
  | .ge, x, y => ¬ x < y
  | .gt, x, y => y < x
  | .le, x, y => ¬ y < x
theorem cP_yes {cd : ClassFile.Cond} {x y : Int32} (h : cP cd x y) : if_icmp.holds cd x y = true := by
  cases cd
  · exact (teq h).1
  · exact (feq h).2
  · exact (tlt h).1
  · exact (flt h).2.1
  · exact (tlt h).2.2.1
  · exact (flt h).2.2.2
theorem cP_no {cd : ClassFile.Cond} {x y : Int32} (h : ¬ cP cd x y) : if_icmp.holds cd x y = false := by
  cases cd
  · exact (feq h).1
  · exact (teq (Classical.not_not.mp h)).2
  · exact (flt h).1
  · exact (tlt (Classical.not_not.mp h)).2.1
  · exact (flt h).2.2.1
  · exact (tlt (Classical.not_not.mp h)).2.2.2
theorem g_goto (W : Wk Z y bytes ml ret n0 p l e R s m args below meth c T kc ks) {o : Int} (hd : decode bytes pc = .ok (.goto o, 3)) (hpc : (pc : Int) + o = (pc' : Nat)) (K : Goes p e below E (T.setTop (mkF m pc' ls st))) : Goes p e below E (T.setTop (mkF m pc ls st)) :=
  K.back fun _ r => XS.goto W.here W.hx rfl (pc0 := pc) (pc' := pc') rfl (hb W.hby hd) (by omega) (by omega) r
theorem g_if (W : Wk Z y bytes ml ret n0 p l e R s m args below meth c T kc ks) {cd : ClassFile.Cond} {x : Int32} {o : Int} {pcy : Nat} (hd : decode bytes pc = .ok (.ifCond cd o, 3)) (hy : (pc : Int) + o = (pcy : Nat)) (hpc : pc + 3 = pc') (KY : cP cd x 0 → Goes p e below E (T.setTop (mkF m pcy ls st))) (KN : ¬ cP cd x 0 → Goes p e below E (T.setTop (mkF m pc' ls st))) : Goes p e below E (T.setTop (mkF m pc ls (.int x :: st))) := by
  subst hpc
  by_cases q : cP cd x 0
  · exact (KY q).back fun _ r => XS.ifYes W.here W.hx rfl (pc0 := pc) (pc' := pcy) rfl (hb W.hby hd) rfl ((if0 _ _).trans (cP_yes q)) (by omega) (by omega) r
  · exact (KN q).back fun _ r => XS.ifNo W.here W.hx rfl (hb W.hby hd) rfl ((if0 _ _).trans (cP_no q)) r
theorem g_icmp (W : Wk Z y bytes ml ret n0 p l e R s m args below meth c T kc ks) {cd : ClassFile.Cond} {x y0 : Int32} {o : Int} {pcy : Nat} (hd : decode bytes pc = .ok (.if_icmp cd o, 3)) (hy : (pc : Int) + o = (pcy : Nat)) (hpc : pc + 3 = pc') (KY : cP cd x y0 → Goes p e below E (T.setTop (mkF m pcy ls st))) (KN : ¬ cP cd x y0 → Goes p e below E (T.setTop (mkF m pc' ls st))) : Goes p e below E (T.setTop (mkF m pc ls (.int y0 :: .int x :: st))) := by
  subst hpc
  by_cases q : cP cd x y0
  · exact (KY q).back fun _ r => XS.icmpYes W.here W.hx rfl (pc0 := pc) (pc' := pcy) rfl (hb W.hby hd) rfl (cP_yes q) (by omega) (by omega) r
  · exact (KN q).back fun _ r => XS.icmpNo W.here W.hx rfl (hb W.hby hd) rfl (cP_no q) r

theorem Wk.more (W : Wk Z y bytes ml ret n0 p l e R s m args below meth c T kc ks) {kc' ks' : Nat} (h1 : kc ≤ kc') (h2 : ks ≤ ks') : Wk Z y bytes ml ret n0 p l e R s m args below meth c T kc' ks' := by
  obtain ⟨A, locs, X, N⟩ := W
  exact ⟨A, locs, X.more h1 h2, N⟩
theorem cmpL_self (x : Int64) : XT.cmpL x x = 0 := by
  show (if x < x then (1 : Int32) else if x = x then 0 else -1) = 0
  rw [if_neg (fun q => by rw [Int64.lt_iff_toInt_lt] at q; omega), if_pos rfl]
/-! ### the ends -/
theorem g_leave (W : Wk Z y bytes ml ret n0 p l e R s m args below meth c T kc ks) {v : Option Value} {U : State} (hv : ret = none → v = none) (hQ : Q v T.heap) (hk : kc ≤ k) (hj : ks ≤ j)
    (st : ∀ fs, (∀ (f : JFrame) (acts : List Action), f.method = m → f.locked = none → f.entered = [] → (doReturn e (T.setTop f) acts v).1 = T.setFrames fs) → Steps p.tables e below U (T.setFrames fs)) : Goes p e below (En s n0 k j Q) U := by
  have hlk := W.hlk
  have hret := W.hret
  obtain ⟨_, locs, X, N⟩ := W
  obtain ⟨fs, hr, hrun, hended, hW, hsame⟩ := X.leave (v := v) (fun q => hv (hret ▸ q)) hlk
  exact ⟨_, v, locs, st fs hr, hrun, hended, ⟨N, hQ⟩, ⟨_, rfl⟩, hW, hsame.mono hk hj⟩
theorem g_return (W : Wk Z y bytes ml none n0 p l e R s m args below meth c T kc ks) (hd : decode bytes pc = .ok (.return_, 1)) (hQ : Q none T.heap) (hk : kc ≤ k) (hj : ks ≤ j) : Goes p e below (En s n0 k j Q) (T.setTop (mkF m pc ls [])) :=
  g_leave W (fun _ => rfl) hQ hk hj fun fs hr => by
    have hret := W.hret
    have hx := W.hx
    have hby := W.hby
    obtain ⟨_, locs, X, N⟩ := W
    exact X.returnOut hx hret (hb hby hd) hr
theorem g_ret {t : FieldType} (W : Wk Z y bytes ml (some t) n0 p l e R s m args below meth c T kc ks) {w : Value} {i : Instr} (hn : narrow t w = w)
    (hi : (i = .ireturn ∧ (t = .int ∨ t = .boolean ∨ t = .byte ∨ t = .char ∨ t = .short) ∧ ∃ z, w = .int z) ∨ (i = .lreturn ∧ t = .long ∧ ∃ z, w = .long z) ∨ (i = .dreturn ∧ t = .double ∧ ∃ z, w = .double z) ∨ (i = .freturn ∧ t = .float ∧ ∃ z, w = .float z) ∨ (i = .areturn ∧ t.isReference = true ∧ w.isRef = true))
    (hd : decode bytes pc = .ok (i, 1)) (hQ : Q (some w) T.heap) (hk : kc ≤ k) (hj : ks ≤ j) : Goes p e below (En s n0 k j Q) (T.setTop (mkF m pc ls (w :: st))) :=
  g_leave W (fun q => nomatch q) hQ hk hj fun fs hr => by
    have hret := W.hret
    have hx := W.hx
    have hby := W.hby
    obtain ⟨_, locs, X, N⟩ := W
    exact retOut X hx hret hn hi (hb hby hd) hr
theorem g_ireturn (W : Wk Z y bytes ml (some .int) n0 p l e R s m args below meth c T kc ks) {x : Int32} (hd : decode bytes pc = .ok (.ireturn, 1)) (hQ : Q (some (.int x)) T.heap) (hk : kc ≤ k) (hj : ks ≤ j) : Goes p e below (En s n0 k j Q) (T.setTop (mkF m pc ls (.int x :: st))) :=
  g_ret W rfl (Or.inl ⟨rfl, Or.inl rfl, _, rfl⟩) hd hQ hk hj
theorem g_zreturn (W : Wk Z y bytes ml (some .boolean) n0 p l e R s m args below meth c T kc ks) {x : Int32} (h01 : x &&& 1 = x) (hd : decode bytes pc = .ok (.ireturn, 1)) (hQ : Q (some (.int x)) T.heap) (hk : kc ≤ k) (hj : ks ≤ j) : Goes p e below (En s n0 k j Q) (T.setTop (mkF m pc ls (.int x :: st))) :=
  g_ret W (by show Value.int (x &&& 1) = _; rw [h01]) (Or.inl ⟨rfl, Or.inr (Or.inl rfl), _, rfl⟩) hd hQ hk hj
theorem g_areturn {t : FieldType} (W : Wk Z y bytes ml (some t) n0 p l e R s m args below meth c T kc ks) {v : Value} (ht : t.isReference = true) (hr : v.isRef = true) (hd : decode bytes pc = .ok (.areturn, 1)) (hQ : Q (some v) T.heap) (hk : kc ≤ k) (hj : ks ≤ j) : Goes p e below (En s n0 k j Q) (T.setTop (mkF m pc ls (v :: st))) :=
  g_ret W (by cases t <;> first | (cases ht; done) | rfl) (Or.inr (Or.inr (Or.inr (Or.inr ⟨rfl, ht, hr⟩)))) hd hQ hk hj
theorem g_lreturn (W : Wk Z y bytes ml (some .long) n0 p l e R s m args below meth c T kc ks) {x : Int64} (hd : decode bytes pc = .ok (.lreturn, 1)) (hQ : Q (some (.long x)) T.heap) (hk : kc ≤ k) (hj : ks ≤ j) : Goes p e below (En s n0 k j Q) (T.setTop (mkF m pc ls (.long x :: st))) :=
  g_ret W rfl (Or.inr (Or.inl ⟨rfl, rfl, _, rfl⟩)) hd hQ hk hj
theorem g_dreturn (W : Wk Z y bytes ml (some .double) n0 p l e R s m args below meth c T kc ks) {x : UInt64} (hd : decode bytes pc = .ok (.dreturn, 1)) (hQ : Q (some (.double x)) T.heap) (hk : kc ≤ k) (hj : ks ≤ j) : Goes p e below (En s n0 k j Q) (T.setTop (mkF m pc ls (.double x :: st))) :=
  g_ret W rfl (Or.inr (Or.inr (Or.inl ⟨rfl, rfl, _, rfl⟩))) hd hQ hk hj
/-! ### the head of a body -/
theorem con_of {ws : List Cond} {rm : Room} {as : Array Value} {h0 : Heap} {Post : Option Value → Heap → Prop} (hpn : plainFor y = true)
    (body : ∀ (p : Program) (e : Env) (s : State) (m : MethodId) (below : List Frame) (meth : Method) (c : Code) (T : State), Wk Z y bytes ml ret n0 p l e rm s m as below meth c T 0 0 → T.heap = h0 → Goes p e below (En s n0 rm.cells rm.slots Post) (T.setTop (entryFrame m as ml))) :
    Con l Z n0 y ws bytes ml ret rm as h0 Post := by
  refine MetFree.of_bodySF hpn hisR ?_
  intro p e s m args below meth c s₁ Bd hml0 hP hK
  obtain ⟨rfl, hZ, hh⟩ := hP
  obtain ⟨s₂, v, L, g1, g2, g3, g4, g5⟩ := body p e s m below meth c s₁ ⟨⟨Bd.exec, hZ, findClass_of_methodNamed Bd.named, Bd.bytes, hml0, Bd.returns, Bd.notSynchronized, (name_of_methodNamed Bd.named Bd.method).1⟩, [], Stand.of_body Bd, Fr.nil n0⟩ (by rw [← hh, Bd.state]; rfl)
  exact ⟨s₂, _, g1, g2, g3, v, L, rfl, g4, g5⟩
theorem g_cast {g g' : JFrame} (q : g = g') (K : Goes p e below E (T.setTop g')) : Goes p e below E (T.setTop g) := q ▸ K
/-! ### constants of the pool -/
theorem g_ldcInt (W : Wk Z y bytes ml ret n0 p l e R s m args below meth c T kc ks) {ix : Nat} {v : Int32} (w : (Cond.constant y.cls ix v).before a0 Z = true) (hd : decode bytes pc = .ok (.ldc ix, 2)) (hpc : pc + 2 = pc') (K : Goes p e below E (T.setTop (mkF m pc' ls (.int v :: st)))) : Goes p e below E (T.setTop (mkF m pc ls st)) := by
  subst hpc
  have hx := W.hx; have hby := W.hby; have hown := W.hown; have hZ := W.hZ
  obtain ⟨_, locs, X, N⟩ := W
  exact K.back fun _ r => X.ldcInt hx hown (mvT hZ w) (g := mkF m pc ls st) rfl (hb hby hd) _ r
theorem g_ldc2Long (W : Wk Z y bytes ml ret n0 p l e R s m args below meth c T kc ks) {ix : Nat} {v : Int64} (w : (Cond.constantLong y.cls ix v).before a0 Z = true) (hd : decode bytes pc = .ok (.ldc2_w ix, 3)) (hpc : pc + 3 = pc') (K : Goes p e below E (T.setTop (mkF m pc' ls (.long v :: st)))) : Goes p e below E (T.setTop (mkF m pc ls st)) := by
  subst hpc
  have hx := W.hx; have hby := W.hby; have hown := W.hown; have hZ := W.hZ
  obtain ⟨_, locs, X, N⟩ := W
  exact K.back fun _ r => X.ldc2Long hx hown (mvT hZ w) (g := mkF m pc ls st) rfl (hb hby hd) _ r
theorem g_ldc2Double (W : Wk Z y bytes ml ret n0 p l e R s m args below meth c T kc ks) {ix : Nat} {v : UInt64} (w : (Cond.constantDouble y.cls ix v).before a0 Z = true) (hd : decode bytes pc = .ok (.ldc2_w ix, 3)) (hpc : pc + 3 = pc') (K : Goes p e below E (T.setTop (mkF m pc' ls (.double v :: st)))) : Goes p e below E (T.setTop (mkF m pc ls st)) := by
  subst hpc
  have hx := W.hx; have hby := W.hby; have hown := W.hown; have hZ := W.hZ
  obtain ⟨_, locs, X, N⟩ := W
  exact K.back fun _ r => X.ldc2DoubleC hx hown (mvT hZ w) (g := mkF m pc ls st) rfl (hb hby hd) _ r
theorem g_ldcFloat (W : Wk Z y bytes ml ret n0 p l e R s m args below meth c T kc ks) {ix : Nat} {v : UInt32} (w : (Cond.constantFloat y.cls ix v).before a0 Z = true) (hd : decode bytes pc = .ok (.ldc ix, 2)) (hpc : pc + 2 = pc') (K : Goes p e below E (T.setTop (mkF m pc' ls (.float v :: st)))) : Goes p e below E (T.setTop (mkF m pc ls st)) := by
  subst hpc
  have hx := W.hx; have hby := W.hby; have hown := W.hown; have hZ := W.hZ
  obtain ⟨_, locs, X, N⟩ := W
  exact K.back fun _ r => X.ldcFloatC hx hown (mvT hZ w) (g := mkF m pc ls st) rfl (hb hby hd) _ r
/-! ### the heap: a list of places, each with what its cell is -/
abbrev HRow := Addr × (Cell → Prop)
/-- what was there at the start Z is as it was -/
def Bs (Z : State) (n0 : Nat) (h : Heap) : Prop := n0 ≤ h.size ∧ Z.heap.size ≤ n0 ∧ Ext Z.heap h
def Hp (Z : State) (n0 : Nat) (h : Heap) (L : List HRow) : Prop := Bs Z n0 h ∧ (L.map (·.1)).Nodup ∧ ∀ r ∈ L, n0 ≤ r.1 ∧ ∃ c : Cell, h[r.1]? = some c ∧ r.2 c
abbrev FR := String × String × String × Value
def FldC (Z : State) (f : FR) (c : Cell) : Prop := ∃ (cf : ClassId) (k : Class) (i : Nat) (fd : Field), Z.fieldFound? f.1 f.2.1 f.2.2.1 = some (cf, k, i, fd) ∧ fd.isStatic = false ∧ Z.vm.assignable c.cls cf = true ∧ c.slots[fd.slot]? = some f.2.2.2
def ObC (Z : State) (C : String) (fs : List FR) (c : Cell) : Prop :=
  (∃ k : Class, Z.vm.findClass C = some c.cls ∧ Z.vm.classes[c.cls]? = some k ∧ (k.kind = .ordinary → c.slots.size = k.instanceTypes.size)) ∧ c.vm ≠ .unknown ∧ c.vm.isStatics = false ∧ (∀ f ∈ fs, FldC Z f c) ∧ (fs.map fun f => RoadKit.slotOf Z f.1 f.2.1 f.2.2.1).Nodup
def ArC (Z : State) (ty : FieldType) (vs : List Value) (c : Cell) : Prop := Z.isArrayOf c ty ∧ c.vm ≠ .unknown ∧ c.slots = vs.toArray ∧ vs.length < 2 ^ 31
section Heap
variable {h h' : Heap} {L : List HRow} {a : Addr} {P P' : Cell → Prop} {cell : Cell} {i jx : Nat} {C O n d R0 : String} {fs : List FR} {v w : Value} {vs : List Value} {ty : FieldType}
theorem Bs.start : Bs Z Z.heap.size Z.heap := ⟨Nat.le_refl _, Nat.le_refl _, Nat.le_refl _, fun _ _ q => q⟩
theorem Bs.ext (q : Bs Z n0 h) (E : Ext h h') : Bs Z n0 h' := ⟨Nat.le_trans q.1 E.1, q.2.1, Nat.le_trans q.2.2.1 E.1, fun a c r => E.2 a c (q.2.2.2 a c r)⟩
theorem Bs.put (q : Bs Z n0 h) (ha : n0 ≤ a) (c' : Cell) : Bs Z n0 (h.setIfInBounds a c') := by
  refine ⟨by simpa using q.1, q.2.1, by simpa using q.2.2.1, fun x c r => ?_⟩
  have hx := (Array.getElem?_eq_some_iff.mp r).1
  have := q.2.1
  rw [Array.getElem?_setIfInBounds_ne (by omega)]; exact q.2.2.2 x c r
theorem Hp.nil (q : Bs Z n0 h) : Hp Z n0 h [] := ⟨q, List.nodup_nil, fun _ r => nomatch r⟩
theorem Hp.get (H : Hp Z n0 h L) (hi : L[i]? = some (a, P)) : n0 ≤ a ∧ ∃ c : Cell, h[a]? = some c ∧ P c := H.2.2 (a, P) (List.mem_of_getElem? hi)
theorem map_set_same {α β : Type} (f : α → β) : ∀ (L : List α) (i : Nat) (x x' : α), L[i]? = some x → f x' = f x → (L.set i x').map f = L.map f
  | [], _, _, _, h, _ => by simp at h
  | z :: L, 0, x, x', h, e => by simp at h; subst h; simp [e]
  | z :: L, i + 1, x, x', h, e => by simp at h; simp [map_set_same f L i x x' h e]
theorem nodup_inj {α : Type} {l : List α} (h : l.Nodup) {i j : Nat} {x : α} (hi : l[i]? = some x) (hj : l[j]? = some x) : i = j := (List.getElem?_inj (List.getElem?_eq_some_iff.mp hi).1 h).mp (hi.trans hj.symm)
theorem erase_perm {α : Type} : ∀ (L : List α) (i : Nat) (x : α), L[i]? = some x → L.Perm (x :: L.eraseIdx i)
  | [], _, _, h => by simp at h
  | z :: L, 0, x, h => by simp at h; subst h; exact List.Perm.refl _
  | z :: L, i + 1, x, h => by
    simp at h
    exact ((erase_perm L i x h).cons z).trans (List.Perm.swap x z _)
theorem Hp.put (H : Hp Z n0 h L) (hi : L[i]? = some (a, P)) {c' : Cell} (hP : P' c') : Hp Z n0 (h.setIfInBounds a c') (L.set i (a, P')) := by
  obtain ⟨h1, h2, h3⟩ := H
  obtain ⟨q1, c0, q2, -⟩ := Hp.get ⟨h1, h2, h3⟩ hi
  have hlt := (Array.getElem?_eq_some_iff.mp q2).1
  refine ⟨h1.put q1 c', by rw [map_set_same (·.1) L i (a, P) (a, P') hi rfl]; exact h2, fun r hr => ?_⟩
  obtain ⟨jj, hj, hjr⟩ := List.mem_iff_getElem.mp hr
  have hjL : jj < L.length := by simpa using hj
  by_cases e : jj = i
  · subst e
    rw [List.getElem_set_self] at hjr
    subst hjr
    exact ⟨q1, c', by simp [hlt], hP⟩
  · rw [List.getElem_set_ne (Ne.symm e)] at hjr
    have hm : r ∈ L := hjr ▸ List.getElem_mem hjL
    obtain ⟨g1, c1, g2, g3⟩ := h3 r hm
    refine ⟨g1, c1, ?_, g3⟩
    have hne : a ≠ r.1 := fun q => by
      have e1 : (L.map (·.1))[i]? = some a := by rw [List.getElem?_map, hi]; rfl
      have e2 : (L.map (·.1))[jj]? = some a := by rw [List.getElem?_map, List.getElem?_eq_getElem hjL, hjr, q]; rfl
      exact e (nodup_inj h2 e2 e1)
    rw [Array.getElem?_setIfInBounds_ne hne]; exact g2
theorem Hp.push (H : Hp Z n0 h L) (E : Ext h h') {c : Cell} (hc : h'[h.size]? = some c) (hP : P c) : Hp Z n0 h' ((h.size, P) :: L) := by
  refine ⟨H.1.ext E, ?_, fun r hr => ?_⟩
  · rw [List.map_cons, List.nodup_cons]
    refine ⟨fun q => ?_, H.2.1⟩
    obtain ⟨r, hr, e⟩ := List.mem_map.mp q
    obtain ⟨-, c1, g2, -⟩ := H.2.2 r hr
    have := (Array.getElem?_eq_some_iff.mp g2).1
    have e' : r.1 = h.size := e
    rw [e'] at this; exact Nat.lt_irrefl _ this
  · rcases List.mem_cons.mp hr with rfl | hr
    · exact ⟨H.1.1, c, hc, hP⟩
    · obtain ⟨g1, c1, g2, g3⟩ := H.2.2 r hr
      exact ⟨g1, c1, E.2 _ _ g2, g3⟩
theorem Hp.perm {L' : List HRow} (H : Hp Z n0 h L) (q : L.Perm L') : Hp Z n0 h L' := ⟨H.1, (q.map _).nodup_iff.mp H.2.1, fun r hr => H.2.2 r (q.mem_iff.mpr hr)⟩
theorem Hp.front {r : HRow} (H : Hp Z n0 h L) (hi : L[i]? = some r) {L' : List HRow} (hL : r :: L.eraseIdx i = L') : Hp Z n0 h L' := by
  subst hL
  exact H.perm (erase_perm L i r hi)
theorem Hp.imp (H : Hp Z n0 h L) (hi : L[i]? = some (a, P)) (q : ∀ c, P c → P' c) : Hp Z n0 h (L.set i (a, P')) := by
  obtain ⟨q1, c0, q2, q3⟩ := H.get hi
  have := H.put hi (q c0 q3)
  have e : h.setIfInBounds a c0 = h := by
    apply Array.ext_getElem?; intro x
    by_cases z : a = x
    · subst z; simp [(Array.getElem?_eq_some_iff.mp q2).1, ← q2]
    · rw [Array.getElem?_setIfInBounds_ne z]
  rw [e] at this; exact this
theorem Hp.tail {r : HRow} (H : Hp Z n0 h (r :: L)) : Hp Z n0 h L := ⟨H.1, (List.nodup_cons.mp H.2.1).2, fun x hx => H.2.2 x (List.mem_cons_of_mem _ hx)⟩
theorem Hp.ne (H : Hp Z n0 h L) {b : Addr} (hi : L[i]? = some (a, P)) (hj : L[jx]? = some (b, P')) (hne : i ≠ jx) : a ≠ b := fun q => by
  have e1 : (L.map (·.1))[i]? = some a := by rw [List.getElem?_map, hi]; rfl
  have e2 : (L.map (·.1))[jx]? = some a := by rw [List.getElem?_map, hj, q]; rfl
  exact hne (nodup_inj H.2.1 e1 e2)
theorem FldC.fld {f : FR} (F : FldC Z f cell) (hc : h[a]? = some cell) (hu : cell.vm ≠ .unknown) (hst : cell.vm.isStatics = false) : Fld Z h a f.1 f.2.1 f.2.2.1 f.2.2.2 := by
  obtain ⟨cf, k, i, fd, h1, h2, h3, h4⟩ := F
  exact ⟨cell, cf, k, i, fd, hc, h1, h2, hu, hst, h3, h4⟩
theorem ObC.exa (F : ObC Z C fs cell) (hc : h[a]? = some cell) : Exa Z h a C := by
  obtain ⟨⟨k, h1, h2, h3⟩, h4, h5, -⟩ := F
  exact ⟨cell, k, hc, h1, h2, h5, h3⟩
theorem ObC.put (F : ObC Z C fs cell) (hj : fs[jx]? = some (O, n, d, v)) : ObC Z C (fs.set jx (O, n, d, w)) (cell.setSlot (RoadKit.slotOf Z O n d) w) := by
  obtain ⟨⟨k, h1, h2, h3⟩, h4, h5, h6, h7⟩ := F
  refine ⟨⟨k, h1, h2, fun q => by rw [sz_set]; exact h3 q⟩, h4, h5, fun f hf => ?_, by rw [map_set_same (fun f : FR => RoadKit.slotOf Z f.1 f.2.1 f.2.2.1) fs jx (O, n, d, v) (O, n, d, w) hj rfl]; exact h7⟩
  obtain ⟨hjL, hjE⟩ := List.getElem?_eq_some_iff.mp hj
  obtain ⟨ii, hi, hie⟩ := List.mem_iff_getElem.mp hf
  have hiL : ii < fs.length := by simpa using hi
  by_cases e : ii = jx
  · subst e
    rw [List.getElem_set_self] at hie
    subst hie
    obtain ⟨cf, kf, i, fd, g1, g2, g3, g4⟩ := h6 _ (hjE ▸ List.getElem_mem hjL)
    refine ⟨cf, kf, i, fd, g1, g2, g3, ?_⟩
    have es : RoadKit.slotOf Z O n d = fd.slot := by simp only [RoadKit.slotOf]; rw [show Z.fieldFound? O n d = _ from g1]; rfl
    have hlt := (Array.getElem?_eq_some_iff.mp g4).1
    simp [Cell.setSlot, es, hlt]
  · rw [List.getElem_set_ne (Ne.symm e)] at hie
    have hm : f ∈ fs := hie ▸ List.getElem_mem hiL
    obtain ⟨cf, kf, i, fd, g1, g2, g3, g4⟩ := h6 f hm
    refine ⟨cf, kf, i, fd, g1, g2, g3, ?_⟩
    have es : RoadKit.slotOf Z f.1 f.2.1 f.2.2.1 = fd.slot := by simp only [RoadKit.slotOf]; rw [g1]; rfl
    have hne : RoadKit.slotOf Z O n d ≠ fd.slot := fun q => by
      have e1 : (fs.map fun f => RoadKit.slotOf Z f.1 f.2.1 f.2.2.1)[jx]? = some fd.slot := by rw [List.getElem?_map, hj, ← q]; rfl
      have e2 : (fs.map fun f => RoadKit.slotOf Z f.1 f.2.1 f.2.2.1)[ii]? = some fd.slot := by rw [List.getElem?_map, List.getElem?_eq_getElem hiL, hie, ← es]; rfl
      exact e (nodup_inj h7 e2 e1)
    show (cell.slots.setIfInBounds _ w)[fd.slot]? = _
    rw [Array.getElem?_setIfInBounds_ne hne]; exact g4
/-- what a class's layout words give: each field laid, its first value, the names apart -/
def LaidAll (Z : State) (a0 : Array Value) (C : String) (fs : List FR) : Prop := ∀ f ∈ fs, Laid Z a0 C f.1 f.2.1 f.2.2.1 ∧ ∃ t, parseFieldDescriptor f.2.2.1 = some t ∧ f.2.2.2 = defaultValue t
theorem LaidAll.nil : LaidAll Z a0 C [] := fun _ q => nomatch q
theorem LaidAll.cons {t : FieldType} (q : Laid Z a0 C O n d) (ht : parseFieldDescriptor d = some t) (hv : v = defaultValue t) (r : LaidAll Z a0 C fs) : LaidAll Z a0 C ((O, n, d, v) :: fs) := fun f hf => by
  rcases List.mem_cons.mp hf with rfl | hf
  · exact ⟨q, t, ht, hv⟩
  · exact r f hf
theorem LaidAll.slots (H : LaidAll Z a0 C fs) (q : (fs.map (·.2.1)).Nodup) : (fs.map fun f => RoadKit.slotOf Z f.1 f.2.1 f.2.2.1).Nodup := by
  induction fs with
  | nil => exact List.nodup_nil
  | cons f fs ih =>
    rw [List.map_cons, List.nodup_cons] at q ⊢
    refine ⟨fun z => ?_, ih (fun x hx => H x (List.mem_cons_of_mem _ hx)) q.2⟩
    obtain ⟨g, hg, e⟩ := List.mem_map.mp z
    obtain ⟨L1, t1, p1, -⟩ := H f (List.mem_cons_self ..)
    obtain ⟨L2, t2, p2, -⟩ := H g (List.mem_cons_of_mem _ hg)
    exact slot_ne L2 L1 (fun u => q.1 (List.mem_map.mpr ⟨g, hg, u⟩)) p2 p1 e
/-! ### the steps that read or write it -/
theorem g_getf (W : Wk Z y bytes ml ret n0 p l e R s m args below meth c T kc ks) {ix : Nat} (w : (Cond.fieldLink y.cls ix R0 n d).before a0 Z = true) (via : Via Z R0 O n d) (H : Hp Z n0 T.heap L) (hi : L[i]? = some (a, ObC Z C fs)) (hj : fs[jx]? = some (O, n, d, v)) (hd : decode bytes pc = .ok (.getfield ix, 3)) (hpc : pc + 3 = pc')
    (K : ∀ T', Wk Z y bytes ml ret n0 p l e R s m args below meth c T' kc ks → Hp Z n0 T'.heap L → Goes p e below E (T'.setTop (mkF m pc' ls (v :: st)))) : Goes p e below E (T.setTop (mkF m pc ls (.ref a :: st))) := by
  subst hpc
  have hx := W.hx; have hby := W.hby; have hown := W.hown; have hZ := W.hZ
  obtain ⟨A, locs, X, N⟩ := W
  obtain ⟨-, cl, q1, q2⟩ := H.get hi
  have F := (q2.2.2.2.1 _ (List.mem_of_getElem? hj)).fld q1 q2.2.1 q2.2.2.1
  obtain ⟨T', X', e', st'⟩ := getF X hx hZ hown (host := "") (Or.inl w) via rfl F (g := mkF m pc ls (.ref a :: st)) rfl rfl (hb hby hd)
  exact (K T' ⟨A, locs, X', N⟩ (e' ▸ H)).back st'
theorem g_putf (W : Wk Z y bytes ml ret n0 p l e R s m args below meth c T kc ks) {ix kk : Nat} (wd : (Cond.fieldLink y.cls ix R0 n d).before a0 Z = true) (via : Via Z R0 O n d) (wl : (Cond.lays C O n d).before a0 Z = true ∨ ((Cond.laysFinal C O n d).before a0 Z = true ∧ y.cls = O ∧ y.name = "<init>")) (wi : (Cond.instantiable C kk).before a0 Z = true) (hty : parseFieldDescriptor d = some ty) (hn : narrow ty w = w) (hf : fits ty w = true)
    (H : Hp Z n0 T.heap L) (hi : L[i]? = some (a, ObC Z C fs)) (hj : fs[jx]? = some (O, n, d, v)) (hd : decode bytes pc = .ok (.putfield ix, 3)) (hpc : pc + 3 = pc') {L' : List HRow} (hL : L.set i (a, ObC Z C (fs.set jx (O, n, d, w))) = L')
    (K : ∀ T', Wk Z y bytes ml ret n0 p l e R s m args below meth c T' kc ks → Hp Z n0 T'.heap L' → Goes p e below E (T'.setTop (mkF m pc' ls st))) : Goes p e below E (T.setTop (mkF m pc ls (w :: .ref a :: st))) := by
  subst hpc hL
  have hx := W.hx; have hby := W.hby; have hown := W.hown; have hZ := W.hZ; have hnm := W.hnm
  obtain ⟨A, locs, X, N⟩ := W
  obtain ⟨hn0, cl, q1, q2⟩ := H.get hi
  have F := (q2.2.2.2.1 _ (List.mem_of_getElem? hj)).fld q1 q2.2.1 q2.2.2.1
  obtain ⟨T', h', X', e', Wr', st'⟩ := putF X hx hZ hown (host := "") (Or.inl wd) via rfl F (q2.exa q1) (wl.imp id fun q => ⟨q.1, q.2.1, hnm.trans q.2.2⟩) wi hty hn hf (g := mkF m pc ls (w :: .ref a :: st)) rfl rfl (hb hby hd)
  obtain ⟨cl', g1, -, -, rfl⟩ := Wr'
  cases q1.symm.trans g1
  exact (K T' ⟨A, _, X', Fr.snoc X' N hn0⟩ (by rw [e']; exact H.put hi (q2.put hj))).back st'
theorem g_new (W : Wk Z y bytes ml ret n0 p l e R s m args below meth c T kc ks) {ix nn : Nat} (w : (Cond.classLink y.cls ix C).before a0 Z = true) (wi : (Cond.instantiable C nn).before a0 Z = true) (wz : (Cond.initialized C).before a0 Z = true) (la : LaidAll Z a0 C fs) (nd : (fs.map (·.2.1)).Nodup) (H : Hp Z n0 T.heap L) (hd : decode bytes pc = .ok (.new ix, 3)) (hpc : pc + 3 = pc')
    {kc' ks' : Nat} (hkc : kc + 1 = kc') (hks : ks + nn = ks') (hc : kc' ≤ R.cells) (hl : ks' ≤ R.slots)
    (K : ∀ T' a, Wk Z y bytes ml ret n0 p l e R s m args below meth c T' kc' ks' → Hp Z n0 T'.heap ((a, ObC Z C fs) :: L) → Goes p e below E (T'.setTop (mkF m pc' ls (.ref a :: st)))) : Goes p e below E (T.setTop (mkF m pc ls st)) := by
  subst hpc hkc hks
  have hx := W.hx; have hby := W.hby; have hown := W.hown; have hZ := W.hZ
  obtain ⟨A, locs, X, N⟩ := W
  obtain ⟨T', h', X', e', E', X1, D, ⟨cell, hcell, hvm, -⟩, st'⟩ := newO X hx hZ hown w wi wz rfl (g := mkF m pc ls st) rfl (hb hby hd) hc hl
  have hob : ObC Z C fs cell := by
    obtain ⟨cell', k', g1, g2, g3, g4, g5⟩ := X1
    cases hcell.symm.trans g1
    refine ⟨⟨k', g2, g3, g5⟩, by rw [hvm]; simp, g4, fun f hf => ?_, la.slots nd⟩
    obtain ⟨Lf, t, ht, hv⟩ := la f hf
    obtain ⟨c2, cf, kf, ii, fd, r1, r2, r3, -, -, r6, r7⟩ := D Lf ht
    cases hcell.symm.trans r1
    exact ⟨cf, kf, ii, fd, r2, r3, r6, by rw [hv]; exact r7⟩
  exact (K T' T.heap.size ⟨A, locs, X', N⟩ (by rw [e']; exact H.push E' hcell hob)).back st'
theorem g_initO (W : Wk Z y bytes ml ret n0 p l e R s m args below meth c T kc ks) {ix : Nat} (w1 : (Cond.methodLink y.cls ix Lib.objectInit).before a0 Z = true) (w2 : (Cond.instanceMethod Lib.objectInit).before a0 Z = true) (w3 : (Cond.code Lib.objectInit ⟨#[0xb1]⟩ 1 none).before a0 Z = true) (H : Hp Z n0 T.heap L) (hls : ls.size = ml) (hd : decode bytes pc = .ok (.invokespecial ix, 3)) (hpc : pc + 3 = pc')
    (hf : 1 ≤ R.frames) {Wn : Nat} (hW : (st.map fun v => v.category).sum ≤ Wn) (hl : Wn + 12 ≤ R.locals)
    (K : ∀ T', Wk Z y bytes ml ret n0 p l e R s m args below meth c T' kc ks → Hp Z n0 T'.heap L → Goes p e below E (T'.setTop (mkF m pc' ls st))) : Goes p e below E (T.setTop (mkF m pc ls (.ref a :: st))) := by
  subst hpc
  have hx := W.hx; have hby := W.hby; have hown := W.hown; have hZ := W.hZ; have hml := W.hml
  obtain ⟨A, locs, X, N⟩ := W
  obtain ⟨T', X', e', st'⟩ := initO X hx hZ hown w1 w2 w3 rfl (g := mkF m pc ls (.ref a :: st)) rfl (by rw [hml]; exact hls) rfl (hb hby hd) hf (W := Wn) (by show 2 * 0 + _ ≤ _; omega) hl
  exact (K T' ⟨A, locs, X', N⟩ (e' ▸ H)).back st'
/-! ### arrays -/
theorem ArC.arr (F : ArC Z ty vs cell) (hc : h[a]? = some cell) : Arr Z h a cell ty := ⟨hc, F.1, F.2.1⟩
theorem idx_ok {x : Int32} (hx : x.toInt = (jx : Int)) (F : ArC Z ty vs cell) (hj : jx < vs.length) : ¬ (x < 0 ∨ cell.slots.size ≤ x.toNatClampNeg) := by
  rw [F.2.2.1]
  have e0 : (0 : Int32).toInt = 0 := rfl
  simp only [Int32.lt_iff_toInt_lt, Int32.toNatClampNeg, List.size_toArray, e0, hx]; omega
theorem idx_nat {x : Int32} (hx : x.toInt = (jx : Int)) : x.toNatClampNeg = jx := by simp only [Int32.toNatClampNeg, hx]; omega
theorem g_newarr (W : Wk Z y bytes ml ret n0 p l e R s m args below meth c T kc ks) {aty : ArrayType} (w : (Cond.arrayClass (newarray.typeOf aty)).before a0 Z = true) (H : Hp Z n0 T.heap L) {x : Int32} (hx0 : ¬ x < 0) (hvs : List.replicate x.toNatClampNeg (defaultValue (newarray.typeOf aty)) = vs) {cap : Nat} (hcap : vs.length ≤ cap) (hcb : cap * 8 ≤ 536870912) (hd : decode bytes pc = .ok (.newarray aty, 2)) (hpc : pc + 2 = pc')
    {kc' ks' : Nat} (hkc : kc + 1 = kc') (hks : ks + cap = ks') (hc : kc' ≤ R.cells) (hl : ks' ≤ R.slots)
    (K : ∀ T' a, Wk Z y bytes ml ret n0 p l e R s m args below meth c T' kc' ks' → Hp Z n0 T'.heap ((a, ArC Z (newarray.typeOf aty) vs) :: L) → Goes p e below E (T'.setTop (mkF m pc' ls (.ref a :: st)))) : Goes p e below E (T.setTop (mkF m pc ls (.int x :: st))) := by
  subst hpc hkc hks hvs
  have hx := W.hx; have hby := W.hby; have hZ := W.hZ
  obtain ⟨A, locs, X, N⟩ := W
  rw [List.length_replicate] at hcap
  obtain ⟨T', h', cA, X', e', E', A1, st'⟩ := newP X hx hZ w rfl (g := mkF m pc ls (.int x :: st)) rfl (hb hby hd) rfl hx0 hcap hcb hc hl
  have hl31 : (List.replicate x.toNatClampNeg (defaultValue (newarray.typeOf aty))).length < 2 ^ 31 := by rw [List.length_replicate]; omega
  exact (K T' T.heap.size ⟨A, locs, X', N⟩ (by rw [e']; exact H.push E' A1.1 ⟨A1.2.1, A1.2.2, by simp [newA], hl31⟩)).back st'
theorem g_arrlen (W : Wk Z y bytes ml ret n0 p l e R s m args below meth c T kc ks) (H : Hp Z n0 T.heap L) (hi : L[i]? = some (a, ArC Z ty vs)) {x : Int32} (hx : vs.length.toInt32 = x) (hd : decode bytes pc = .ok (.arraylength, 1)) (hpc : pc + 1 = pc') (K : Goes p e below E (T.setTop (mkF m pc' ls (.int x :: st)))) : Goes p e below E (T.setTop (mkF m pc ls (.ref a :: st))) := by
  subst hpc hx
  have hx := W.hx; have hby := W.hby; have hZ := W.hZ
  obtain ⟨A, locs, X, N⟩ := W
  obtain ⟨-, cl, q1, q2⟩ := H.get hi
  refine K.back fun t r => X.arraylength hx q1 (State.isArrayOf_alike hZ.alike q2.1) (g := mkF m pc ls (.ref a :: st)) rfl rfl (hb hby hd) t ?_
  have e : cl.slots.size = vs.length := by rw [q2.2.2.1]; simp
  rw [e]; exact r
theorem g_iaload (W : Wk Z y bytes ml ret n0 p l e R s m args below meth c T kc ks) (H : Hp Z n0 T.heap L) (hi : L[i]? = some (a, ArC Z .int vs)) {x : Int32} (hx : x.toInt = (jx : Int)) (hv : vs[jx]? = some v) (hd : decode bytes pc = .ok (.iaload, 1)) (hpc : pc + 1 = pc') (K : Goes p e below E (T.setTop (mkF m pc' ls (v :: st)))) : Goes p e below E (T.setTop (mkF m pc ls (.int x :: .ref a :: st))) := by
  subst hpc
  have hxx := W.hx; have hby := W.hby; have hZ := W.hZ
  obtain ⟨A, locs, X, N⟩ := W
  obtain ⟨-, cl, q1, q2⟩ := H.get hi
  exact K.back fun t r => X.iaload hxx q1 (State.isArrayOf_alike hZ.alike q2.1) q2.2.1 (idx_ok hx q2 (List.getElem?_eq_some_iff.mp hv).1) (by rw [idx_nat hx, q2.2.2.1]; simpa using hv) (g := mkF m pc ls (.int x :: .ref a :: st)) rfl rfl (hb hby hd) t r
theorem g_laload (W : Wk Z y bytes ml ret n0 p l e R s m args below meth c T kc ks) (H : Hp Z n0 T.heap L) (hi : L[i]? = some (a, ArC Z .long vs)) {x : Int32} (hx : x.toInt = (jx : Int)) (hv : vs[jx]? = some v) (hd : decode bytes pc = .ok (.laload, 1)) (hpc : pc + 1 = pc') (K : Goes p e below E (T.setTop (mkF m pc' ls (v :: st)))) : Goes p e below E (T.setTop (mkF m pc ls (.int x :: .ref a :: st))) := by
  subst hpc
  have hxx := W.hx; have hby := W.hby; have hZ := W.hZ
  obtain ⟨A, locs, X, N⟩ := W
  obtain ⟨-, cl, q1, q2⟩ := H.get hi
  exact K.back fun t r => X.laload hxx q1 (State.isArrayOf_alike hZ.alike q2.1) q2.2.1 (idx_ok hx q2 (List.getElem?_eq_some_iff.mp hv).1) (by rw [idx_nat hx, q2.2.2.1]; simpa using hv) (g := mkF m pc ls (.int x :: .ref a :: st)) rfl rfl (hb hby hd) t r
theorem g_daload (W : Wk Z y bytes ml ret n0 p l e R s m args below meth c T kc ks) (H : Hp Z n0 T.heap L) (hi : L[i]? = some (a, ArC Z .double vs)) {x : Int32} (hx : x.toInt = (jx : Int)) (hv : vs[jx]? = some v) (hd : decode bytes pc = .ok (.daload, 1)) (hpc : pc + 1 = pc') (K : Goes p e below E (T.setTop (mkF m pc' ls (v :: st)))) : Goes p e below E (T.setTop (mkF m pc ls (.int x :: .ref a :: st))) := by
  subst hpc
  have hxx := W.hx; have hby := W.hby; have hZ := W.hZ
  obtain ⟨A, locs, X, N⟩ := W
  obtain ⟨-, cl, q1, q2⟩ := H.get hi
  exact K.back fun t r => X.daload hxx q1 (State.isArrayOf_alike hZ.alike q2.1) q2.2.1 (idx_ok hx q2 (List.getElem?_eq_some_iff.mp hv).1) (by rw [idx_nat hx, q2.2.2.1]; simpa using hv) (g := mkF m pc ls (.int x :: .ref a :: st)) rfl rfl (hb hby hd) t r
theorem g_iastore (W : Wk Z y bytes ml ret n0 p l e R s m args below meth c T kc ks) (H : Hp Z n0 T.heap L) (hi : L[i]? = some (a, ArC Z .int vs)) {x : Int32} {u : Int32} (hx : x.toInt = (jx : Int)) (hj : jx < vs.length) (hd : decode bytes pc = .ok (.iastore, 1)) (hpc : pc + 1 = pc') {L' : List HRow} (hL : L.set i (a, ArC Z .int (vs.set jx (.int u))) = L')
    (K : ∀ T', Wk Z y bytes ml ret n0 p l e R s m args below meth c T' kc ks → Hp Z n0 T'.heap L' → Goes p e below E (T'.setTop (mkF m pc' ls st))) : Goes p e below E (T.setTop (mkF m pc ls (.int u :: .int x :: .ref a :: st))) := by
  subst hpc hL
  have hxx := W.hx; have hby := W.hby; have hZ := W.hZ
  obtain ⟨A, locs, X, N⟩ := W
  obtain ⟨hn0, cl, q1, q2⟩ := H.get hi
  obtain ⟨T', h', X', e', Wr', st'⟩ := stI X hxx hZ rfl (q2.arr q1) (idx_ok hx q2 hj) (g := mkF m pc ls (.int u :: .int x :: .ref a :: st)) rfl rfl (hb hby hd)
  obtain ⟨cl', g1, -, -, rfl⟩ := Wr'
  cases q1.symm.trans g1
  have hsl : (cl.setSlot x.toNatClampNeg (.int u)).slots = (vs.set jx (.int u)).toArray := by rw [idx_nat hx]; show cl.slots.setIfInBounds jx _ = _; rw [q2.2.2.1]; simp
  exact (K T' ⟨A, _, X', Fr.snoc X' N hn0⟩ (by rw [e']; exact H.put hi ⟨q2.1, q2.2.1, hsl, by rw [List.length_set]; exact q2.2.2.2⟩)).back st'
theorem g_lastore (W : Wk Z y bytes ml ret n0 p l e R s m args below meth c T kc ks) (H : Hp Z n0 T.heap L) (hi : L[i]? = some (a, ArC Z .long vs)) {x : Int32} {u : Int64} (hx : x.toInt = (jx : Int)) (hj : jx < vs.length) (hd : decode bytes pc = .ok (.lastore, 1)) (hpc : pc + 1 = pc') {L' : List HRow} (hL : L.set i (a, ArC Z .long (vs.set jx (.long u))) = L')
    (K : ∀ T', Wk Z y bytes ml ret n0 p l e R s m args below meth c T' kc ks → Hp Z n0 T'.heap L' → Goes p e below E (T'.setTop (mkF m pc' ls st))) : Goes p e below E (T.setTop (mkF m pc ls (.long u :: .int x :: .ref a :: st))) := by
  subst hpc hL
  have hxx := W.hx; have hby := W.hby; have hZ := W.hZ
  obtain ⟨A, locs, X, N⟩ := W
  obtain ⟨hn0, cl, q1, q2⟩ := H.get hi
  obtain ⟨T', h', X', e', Wr', st'⟩ := stJ X hxx hZ rfl (q2.arr q1) (idx_ok hx q2 hj) (g := mkF m pc ls (.long u :: .int x :: .ref a :: st)) rfl rfl (hb hby hd)
  obtain ⟨cl', g1, -, -, rfl⟩ := Wr'
  cases q1.symm.trans g1
  have hsl : (cl.setSlot x.toNatClampNeg (.long u)).slots = (vs.set jx (.long u)).toArray := by rw [idx_nat hx]; show cl.slots.setIfInBounds jx _ = _; rw [q2.2.2.1]; simp
  exact (K T' ⟨A, _, X', Fr.snoc X' N hn0⟩ (by rw [e']; exact H.put hi ⟨q2.1, q2.2.1, hsl, by rw [List.length_set]; exact q2.2.2.2⟩)).back st'
theorem g_dastore (W : Wk Z y bytes ml ret n0 p l e R s m args below meth c T kc ks) (H : Hp Z n0 T.heap L) (hi : L[i]? = some (a, ArC Z .double vs)) {x : Int32} {u : UInt64} (hx : x.toInt = (jx : Int)) (hj : jx < vs.length) (hd : decode bytes pc = .ok (.dastore, 1)) (hpc : pc + 1 = pc') {L' : List HRow} (hL : L.set i (a, ArC Z .double (vs.set jx (.double u))) = L')
    (K : ∀ T', Wk Z y bytes ml ret n0 p l e R s m args below meth c T' kc ks → Hp Z n0 T'.heap L' → Goes p e below E (T'.setTop (mkF m pc' ls st))) : Goes p e below E (T.setTop (mkF m pc ls (.double u :: .int x :: .ref a :: st))) := by
  subst hpc hL
  have hxx := W.hx; have hby := W.hby; have hZ := W.hZ
  obtain ⟨A, locs, X, N⟩ := W
  obtain ⟨hn0, cl, q1, q2⟩ := H.get hi
  obtain ⟨T', h', X', e', Wr', st'⟩ := stD X hxx hZ rfl (q2.arr q1) (idx_ok hx q2 hj) (g := mkF m pc ls (.double u :: .int x :: .ref a :: st)) rfl rfl (hb hby hd)
  obtain ⟨cl', g1, -, -, rfl⟩ := Wr'
  cases q1.symm.trans g1
  have hsl : (cl.setSlot x.toNatClampNeg (.double u)).slots = (vs.set jx (.double u)).toArray := by rw [idx_nat hx]; show cl.slots.setIfInBounds jx _ = _; rw [q2.2.2.1]; simp
  exact (K T' ⟨A, _, X', Fr.snoc X' N hn0⟩ (by rw [e']; exact H.put hi ⟨q2.1, q2.2.1, hsl, by rw [List.length_set]; exact q2.2.2.2⟩)).back st'
end Heap
/-! ### calls by contract -/
section Calls
variable {y' : MethodName} {bytes' : ByteArray} {ml' : Nat} {ret' : Option FieldType} {rm : Room} {Post : Option Value → Heap → Prop} {argsL stk : List Value} {ix : Nat} {Wn kc' ks' : Nat} {ps : List FieldType} {rt : Option FieldType}
theorem g_callS (W : Wk Z y bytes ml ret n0 p l e R s m args below meth c T kc ks) (w1 : (Cond.methodLink y.cls ix y').before a0 Z = true) (w2 : (Cond.static y').before a0 Z = true) (w3 : (Cond.initialized y'.cls).before a0 Z = true) (w4 : (Cond.code y' bytes' ml' ret').before a0 Z = true) (hy : y'.cls ≠ "java/lang/invoke/MethodHandle" ∧ y'.cls ≠ "java/lang/invoke/VarHandle")
    (con : Con l Z n0 y' [] bytes' ml' ret' rm argsL.toArray T.heap Post) (hpd : parseMethodDescriptor y'.desc = some ⟨ps, rt⟩) (hlen : argsL.length = ps.length) (hstk : stk = argsL.reverse ++ st) (hls : ls.size = ml) (hd : decode bytes pc = .ok (.invokestatic ix, 3)) (hpc : pc + 3 = pc')
    (hf : rm.frames + 1 ≤ R.frames) (hW : (st.map fun v => v.category).sum ≤ Wn) (hl : Wn + (ml' + 11) + rm.locals ≤ R.locals) (hkc : kc + rm.cells = kc') (hks : ks + rm.slots = ks') (hc : kc' ≤ R.cells) (hs : ks' ≤ R.slots)
    (K : ∀ T' v, Wk Z y bytes ml ret n0 p l e R s m args below meth c T' kc' ks' → Post v T'.heap → Goes p e below E (T'.setTop (mkF m pc' ls (v.toList ++ st)))) : Goes p e below E (T.setTop (mkF m pc ls stk)) := by
  subst hpc hkc hks hstk
  have hx := W.hx; have hby := W.hby; have hown := W.hown; have hZ := W.hZ; have hml := W.hml
  obtain ⟨A, locs, X, N⟩ := W
  obtain ⟨v, vm1, ⟨T', L', kk, jj⟩, -, X', ⟨Lc, ⟨hN, hQ⟩, l1, l2, l3⟩, st'⟩ := Jvm.LawKit.callS X hx hown (mvT hZ w1) (mvT hZ w2) (mvT hZ w3) (mvT hZ w4) hy (backOf (Q := fun v h L => Fr n0 L ∧ Post v h) (W := Wn) con hZ w4 w3 hf hl) (g := mkF m pc ls (argsL.reverse ++ st)) rfl (by rw [hml]; exact hls) (argsL := argsL) (rest := st) (lenOf hpd hlen) rfl (by show 2 * 0 + _ ≤ _; omega) (hb hby hd) (fun _ _ => ⟨rfl, rfl, hc, hs⟩)
  dsimp only [Pt.U, Pt.locs, Pt.cells, Pt.slots] at X' l1 l2 l3 hQ st'
  subst l1 l2 l3
  exact (K T' v ⟨A, _, X', N.app hN⟩ hQ).back st'
theorem g_callI (W : Wk Z y bytes ml ret n0 p l e R s m args below meth c T kc ks) (hin : y'.name = "<init>") (w1 : (Cond.methodLink y.cls ix y').before a0 Z = true) (w2 : (Cond.instanceMethod y').before a0 Z = true) (w3 : (Cond.initialized y'.cls).before a0 Z = true) (w4 : (Cond.code y' bytes' ml' none).before a0 Z = true) (hy : y'.cls ≠ "java/lang/invoke/MethodHandle" ∧ y'.cls ≠ "java/lang/invoke/VarHandle")
    {a : Addr} (con : Con l Z n0 y' [] bytes' ml' none rm (.ref a :: argsL).toArray T.heap Post) (hpd : parseMethodDescriptor y'.desc = some ⟨ps, rt⟩) (hlen : argsL.length = ps.length) (hstk : stk = argsL.reverse ++ .ref a :: st) (hls : ls.size = ml) (hd : decode bytes pc = .ok (.invokespecial ix, 3)) (hpc : pc + 3 = pc')
    (hf : rm.frames + 1 ≤ R.frames) (hW : (st.map fun v => v.category).sum ≤ Wn) (hl : Wn + (ml' + 11) + rm.locals ≤ R.locals) (hkc : kc + rm.cells = kc') (hks : ks + rm.slots = ks') (hc : kc' ≤ R.cells) (hs : ks' ≤ R.slots)
    (K : ∀ T' v, Wk Z y bytes ml ret n0 p l e R s m args below meth c T' kc' ks' → Post v T'.heap → Goes p e below E (T'.setTop (mkF m pc' ls (v.toList ++ st)))) : Goes p e below E (T.setTop (mkF m pc ls stk)) := by
  subst hpc hkc hks hstk
  have hx := W.hx; have hby := W.hby; have hown := W.hown; have hZ := W.hZ; have hml := W.hml
  obtain ⟨A, locs, X, N⟩ := W
  obtain ⟨v, vm1, ⟨T', L', kk, jj⟩, -, X', ⟨Lc, ⟨hN, hQ⟩, l1, l2, l3⟩, st'⟩ := X.specialBack hx (y := y') hin hown (mvT hZ w1) (mvT hZ w2) (mvT hZ w4) hy (backOf (Q := fun v h L => Fr n0 L ∧ Post v h) (W := Wn) con hZ w4 w3 hf hl) (g := mkF m pc ls (argsL.reverse ++ .ref a :: st)) rfl (by rw [hml]; exact hls) (Steps.refl _) (a := a) (argsL := argsL) (rest := st) (lenOf hpd hlen) rfl (by show 2 * 0 + _ ≤ _; omega) (hb hby hd) (fun _ _ => ⟨rfl, rfl, hc, hs⟩)
  dsimp only [Pt.U, Pt.locs, Pt.cells, Pt.slots] at X' l1 l2 l3 hQ st'
  subst l1 l2 l3
  exact (K T' v ⟨A, _, X', N.app hN⟩ hQ).back fun t r => st'.trans r
theorem g_callV (W : Wk Z y bytes ml ret n0 p l e R s m args below meth c T kc ks) {C : String} {fs : List FR} {L : List HRow} {i : Nat} (w1 : (Cond.methodLink y.cls ix y').before a0 Z = true) (w2 : (Cond.declares y').before a0 Z = true) (w3 : (Cond.selects C y' y').before a0 Z = true) (w4 : (Cond.instanceMethod y').before a0 Z = true) (w5 : (Cond.initialized y'.cls).before a0 Z = true) (w6 : (Cond.code y' bytes' ml' ret').before a0 Z = true) (hy : y'.cls ≠ "java/lang/invoke/MethodHandle" ∧ y'.cls ≠ "java/lang/invoke/VarHandle")
    {a : Addr} (H : Hp Z n0 T.heap L) (hi : L[i]? = some (a, ObC Z C fs)) (con : Con l Z n0 y' [] bytes' ml' ret' rm (.ref a :: argsL).toArray T.heap Post) (hpd : parseMethodDescriptor y'.desc = some ⟨ps, rt⟩) (hlen : argsL.length = ps.length) (hstk : stk = argsL.reverse ++ .ref a :: st) (hls : ls.size = ml) (hd : decode bytes pc = .ok (.invokevirtual ix, 3)) (hpc : pc + 3 = pc')
    (hf : rm.frames + 1 ≤ R.frames) (hW : (st.map fun v => v.category).sum ≤ Wn) (hl : Wn + (ml' + 11) + rm.locals ≤ R.locals) (hkc : kc + rm.cells = kc') (hks : ks + rm.slots = ks') (hc : kc' ≤ R.cells) (hs : ks' ≤ R.slots)
    (K : ∀ T' v, Wk Z y bytes ml ret n0 p l e R s m args below meth c T' kc' ks' → Post v T'.heap → Goes p e below E (T'.setTop (mkF m pc' ls (v.toList ++ st)))) : Goes p e below E (T.setTop (mkF m pc ls stk)) := by
  subst hpc hkc hks hstk
  have hx := W.hx; have hby := W.hby; have hown := W.hown; have hZ := W.hZ; have hml := W.hml
  obtain ⟨A, locs, X, N⟩ := W
  obtain ⟨-, cl, q1, q2⟩ := H.get hi
  obtain ⟨cB, kB, b1, b2, b3⟩ := isOf hZ rfl (q2.exa q1)
  obtain ⟨v, vm1, ⟨T', L', kk, jj⟩, -, X', ⟨Lc, ⟨hN, hQ⟩, l1, l2, l3⟩, st'⟩ := X.virtualBack hx (y := y') hown (mvT hZ w1) (mvT hZ w2) (notFace_of_selects (args := #[]) (mvT hZ w3)) (mvT hZ w3) (mvT hZ w4) hy (backOf (Q := fun v h L => Fr n0 L ∧ Post v h) (W := Wn) con hZ w6 w5 hf hl) b1 b3 (g := mkF m pc ls (argsL.reverse ++ .ref a :: st)) rfl (by rw [hml]; exact hls) (Steps.refl _) (argsL := argsL) (rest := st) (lenOf hpd hlen) rfl (by show 2 * 0 + _ ≤ _; omega) (hb hby hd) (fun _ _ => ⟨rfl, rfl, hc, hs⟩)
  dsimp only [Pt.U, Pt.locs, Pt.cells, Pt.slots] at X' l1 l2 l3 hQ st'
  subst l1 l2 l3
  exact (K T' v ⟨A, _, X', N.app hN⟩ hQ).back fun t r => st'.trans r
theorem g_callP (W : Wk Z y bytes ml ret n0 p l e R s m args below meth c T kc ks) {C : String} {fs : List FR} {L : List HRow} {i nn : Nat} (w1 : (Cond.methodLink y.cls ix y').before a0 Z = true) (w2 : (Cond.instanceMethod y').before a0 Z = true) (w3 : (Cond.privateMethod y').before a0 Z = true) (w4 : (Cond.instantiable y'.cls nn).before a0 Z = true) (w5 : (Cond.initialized y'.cls).before a0 Z = true) (w6 : (Cond.code y' bytes' ml' ret').before a0 Z = true) (hy : y'.cls ≠ "java/lang/invoke/MethodHandle" ∧ y'.cls ≠ "java/lang/invoke/VarHandle")
    {a : Addr} (H : Hp Z n0 T.heap L) (hi : L[i]? = some (a, ObC Z C fs)) (con : Con l Z n0 y' [] bytes' ml' ret' rm (.ref a :: argsL).toArray T.heap Post) (hpd : parseMethodDescriptor y'.desc = some ⟨ps, rt⟩) (hlen : argsL.length = ps.length) (hstk : stk = argsL.reverse ++ .ref a :: st) (hls : ls.size = ml) (hd : decode bytes pc = .ok (.invokevirtual ix, 3)) (hpc : pc + 3 = pc')
    (hf : rm.frames + 1 ≤ R.frames) (hW : (st.map fun v => v.category).sum ≤ Wn) (hl : Wn + (ml' + 11) + rm.locals ≤ R.locals) (hkc : kc + rm.cells = kc') (hks : ks + rm.slots = ks') (hc : kc' ≤ R.cells) (hs : ks' ≤ R.slots)
    (K : ∀ T' v, Wk Z y bytes ml ret n0 p l e R s m args below meth c T' kc' ks' → Post v T'.heap → Goes p e below E (T'.setTop (mkF m pc' ls (v.toList ++ st)))) : Goes p e below E (T.setTop (mkF m pc ls stk)) := by
  subst hpc hkc hks hstk
  have hx := W.hx; have hby := W.hby; have hown := W.hown; have hZ := W.hZ; have hml := W.hml
  obtain ⟨A, locs, X, N⟩ := W
  obtain ⟨-, cl, q1, q2⟩ := H.get hi
  have hst : ∀ q, cl.vm ≠ .statics q := fun q hq => by have := q2.2.2.1; rw [hq] at this; cases this
  obtain ⟨mk, methM, hnamed, hmethM, hstM, habM⟩ := Cond.instanceMethod_spec (args := #[]) (mvT hZ w2)
  obtain ⟨methM', cM, hmethM', -, -, -, -, -, -, hsigM⟩ := Cond.code_spec (args := #[]) hnamed (mvT hZ w6)
  cases hmethM.symm.trans hmethM'
  obtain ⟨cP0, kP, hf1, hkP, -, hkPi, -⟩ := Cond.instantiable_spec (mvT hZ w4 (args := #[]))
  cases (findClass_of_methodNamed hnamed).symm.trans hf1
  have hkPi' : kP.isInterface = false := (Bool.or_eq_false_iff.mp hkPi).1
  have hselP : selectMethod e.platform s.vm cl.cls mk = .method mk := selectMethod_private hmethM (Cond.privateMethod_at (mvP hZ w3 (args := #[])) mk methM hnamed hmethM)
  obtain ⟨vm1, X1, hstep1⟩ := X.invokevirtual hx hown (mvT hZ w1) hnamed hmethM hstM hkP hkPi' hy (a := a) (cell := cl) q1 hst hselP hmethM habM hkP hkPi' (g := mkF m pc ls (argsL.reverse ++ .ref a :: st)) rfl (argsL := argsL) (rest := st) (lenOf hpd hlen _ hsigM) rfl (hb hby hd)
  obtain ⟨v, ⟨T', L', kk, jj⟩, X', ⟨Lc, ⟨hN, hQ⟩, l1, l2, l3⟩, st'⟩ := (backOf (Q := fun v h L => Fr n0 L ∧ Post v h) (W := Wn) (len := 3) (p := p) (e := e) (below := below) (args := args) con hZ w6 w5 hf hl) m meth c ⟨T.setVm vm1, locs, kc, ks⟩ (mkF m pc ls st) (.invokevirtual ix) mk (.ref a :: argsL).toArray X1 rfl (by rw [hml]; exact hls) (hb hby hd) (by show 2 * 0 + (st.map fun v => v.category).sum ≤ Wn; omega) (X1.named hnamed) ⟨rfl, rfl, hc, hs⟩
  dsimp only [Pt.U, Pt.locs, Pt.cells, Pt.slots] at X' l1 l2 l3 hQ st'
  subst l1 l2 l3
  exact (K T' v ⟨A, _, X', N.app hN⟩ hQ).back fun t r => ((hstep1 _ fun acts => by rw [doInvoke_state]; exact Steps.refl _).trans st').trans r
end Calls
end Laws
end Jvm.OwnKit


@@BLOCK:NumsL.lean.txt@@
namespace Jvm.OwnKit
open Jvm.Free
/-! ### ints -/
theorem i32_zero {x : Int32} : x.toInt = 0 ↔ x = 0 := ⟨fun h => Int32.toInt_inj.mp (h.trans (by decide)), fun h => by rw [h]; decide⟩
theorem i32_lit {x y : Int32} {k : Int} (h : x.toInt = k) (hy : y.toInt = k) : x = y := Int32.toInt_inj.mp (h.trans hy.symm)
theorem and1 (x : Int32) : x &&& 1 = 0 ∨ x &&& 1 = 1 := by
  have h := Kit.i32_mask x 1 (k := 1) (by decide) (by decide)
  have q : (x &&& 1).toInt = 0 ∨ (x &&& 1).toInt = 1 := by omega
  rcases q with q | q
  · exact Or.inl (i32_lit q (by decide))
  · exact Or.inr (i32_lit q (by decide))
theorem and3 (x : Int32) : x &&& 3 = 0 ∨ x &&& 3 = 1 ∨ x &&& 3 = 2 ∨ x &&& 3 = 3 := by
  have h := Kit.i32_mask x 3 (k := 2) (by decide) (by decide)
  have q : (x &&& 3).toInt = 0 ∨ (x &&& 3).toInt = 1 ∨ (x &&& 3).toInt = 2 ∨ (x &&& 3).toInt = 3 := by omega
  rcases q with q | q | q | q
  · exact Or.inl (i32_lit q (by decide))
  · exact Or.inr (Or.inl (i32_lit q (by decide)))
  · exact Or.inr (Or.inr (Or.inl (i32_lit q (by decide))))
  · exact Or.inr (Or.inr (Or.inr (i32_lit q (by decide))))
theorem i32_remW (x y : Int32) : (x - (x / y) * y).toInt = x.toInt.tmod y.toInt := by
  have a := (x % y).toInt_lt; have b := (x % y).le_toInt
  rw [Int32.toInt_mod] at a b
  rw [Int32.toInt_sub, Int32.toInt_mul, Int32.toInt_div, Int.bmod_mul_bmod, Int.sub_bmod_bmod, Int.mul_comm, ← Int.tmod_def]
  exact Kit.bmod32 b a
theorem i32_remN {x y : Int32} (hx : 0 ≤ x.toInt) : (x - (x / y) * y).toInt = x.toInt % y.toInt := by rw [i32_remW, Int.tmod_eq_emod_of_nonneg hx]
theorem lt1 {j : Int32} (h : ¬ j < 0) (h2 : j < 1) : j = 0 := by
  rw [Int32.lt_iff_toInt_lt] at h h2
  have e0 : (0 : Int32).toInt = 0 := by decide
  have e1 : (1 : Int32).toInt = 1 := by decide
  exact i32_lit (k := 0) (by omega) e0
theorem lt2 {j : Int32} (h : ¬ j < 0) (h2 : j < 2) : j = 0 ∨ j = 1 := by
  rw [Int32.lt_iff_toInt_lt] at h h2
  have e0 : (0 : Int32).toInt = 0 := by decide
  have e1 : (2 : Int32).toInt = 2 := by decide
  have q : j.toInt = 0 ∨ j.toInt = 1 := by omega
  rcases q with q | q
  · exact Or.inl (i32_lit q (by decide))
  · exact Or.inr (i32_lit q (by decide))
theorem lt3 {j : Int32} (h : ¬ j < 0) (h2 : j < 3) : j = 0 ∨ j = 1 ∨ j = 2 := by
  rw [Int32.lt_iff_toInt_lt] at h h2
  have e0 : (0 : Int32).toInt = 0 := by decide
  have e1 : (3 : Int32).toInt = 3 := by decide
  have q : j.toInt = 0 ∨ j.toInt = 1 ∨ j.toInt = 2 := by omega
  rcases q with q | q | q
  · exact Or.inl (i32_lit q (by decide))
  · exact Or.inr (Or.inl (i32_lit q (by decide)))
  · exact Or.inr (Or.inr (i32_lit q (by decide)))
theorem lt0 {j : Int32} {P : Prop} (h : ¬ j < 0) (h2 : j < 0) : P := absurd h2 h
theorem cmpL3 (x y : Int64) : (x < y ∧ XT.cmpL x y = -1) ∨ (x = y ∧ XT.cmpL x y = 0) ∨ (y < x ∧ XT.cmpL x y = 1) := by
  have e : XT.cmpL x y = (if y < x then (1 : Int32) else if x = y then 0 else -1) := rfl
  by_cases h1 : y < x
  · exact Or.inr (Or.inr ⟨h1, by rw [e, if_pos h1]⟩)
  · by_cases h2 : x = y
    · exact Or.inr (Or.inl ⟨h2, by rw [e, if_neg h1, if_pos h2]⟩)
    · refine Or.inl ⟨?_, by rw [e, if_neg h1, if_neg h2]⟩
      rw [Int64.lt_iff_toInt_lt] at h1 ⊢
      have : x.toInt ≠ y.toInt := fun q => h2 (Int64.toInt_inj.mp q)
      omega
theorem cmpL_eq0 {x y : Int64} : XT.cmpL x y = 0 ↔ x = y := by
  rcases cmpL3 x y with ⟨h, g⟩ | ⟨h, g⟩ | ⟨h, g⟩ <;> rw [g]
  · exact ⟨fun q => absurd q (by decide), fun q => by subst q; rw [Int64.lt_iff_toInt_lt] at h; omega⟩
  · exact ⟨fun _ => h, fun _ => rfl⟩
  · exact ⟨fun q => absurd q (by decide), fun q => by subst q; rw [Int64.lt_iff_toInt_lt] at h; omega⟩
theorem cmpL_gt0 {x y : Int64} : (0 : Int32) < XT.cmpL x y ↔ y < x := by
  rcases cmpL3 x y with ⟨h, g⟩ | ⟨h, g⟩ | ⟨h, g⟩ <;> rw [g]
  · exact ⟨fun q => absurd q (by decide), fun q => by rw [Int64.lt_iff_toInt_lt] at h q; omega⟩
  · exact ⟨fun q => absurd q (by decide), fun q => by subst h; rw [Int64.lt_iff_toInt_lt] at q; omega⟩
  · exact ⟨fun _ => h, fun _ => by decide⟩
theorem cmpL_lt0 {x y : Int64} : XT.cmpL x y < (0 : Int32) ↔ x < y := by
  rcases cmpL3 x y with ⟨h, g⟩ | ⟨h, g⟩ | ⟨h, g⟩ <;> rw [g]
  · exact ⟨fun _ => h, fun _ => by decide⟩
  · exact ⟨fun q => absurd q (by decide), fun q => by subst h; rw [Int64.lt_iff_toInt_lt] at q; omega⟩
  · exact ⟨fun q => absurd q (by decide), fun q => by rw [Int64.lt_iff_toInt_lt] at h q; omega⟩
end Jvm.OwnKit

namespace Jvm.Pilot.@@N@@
open Jvm Jvm.ClassFile Sem Op Lib Jvm.Free Jvm.Stand Jvm.LawKit Jvm.RoadKit Jvm.OwnKit Jvm.Free.Fl Bundle Jvm.Pilot.@@N@@.Jvm.D
theorem wd_0 {Z : State} {a0 : Array Value} (hw : ∀ d ∈ tables_1, d.before a0 Z = true) : (Jvm.Cond.constant "com/example/nearterm/nearterm/evaluation/QueryEvaluationPrecisionAtPinLaw" (7 : Nat) (2147483647 : Int32)).before a0 Z = true := hw _ (List.mem_of_getElem? (i := 0) rfl)
theorem wd_1 {Z : State} {a0 : Array Value} (hw : ∀ d ∈ tables_1, d.before a0 Z = true) : (Jvm.Cond.methodLink "com/example/nearterm/nearterm/evaluation/QueryEvaluationPrecisionAtPinLaw" (8 : Nat) ({ cls := "java/lang/Math", name := "max", desc := "(II)I" } : Jvm.MethodName)).before a0 Z = true := hw _ (List.mem_of_getElem? (i := 1) rfl)
theorem wd_2 {Z : State} {a0 : Array Value} (hw : ∀ d ∈ tables_1, d.before a0 Z = true) : (Jvm.Cond.static ({ cls := "java/lang/Math", name := "max", desc := "(II)I" } : Jvm.MethodName)).before a0 Z = true := hw _ (List.mem_of_getElem? (i := 2) rfl)
theorem wd_3 {Z : State} {a0 : Array Value} (hw : ∀ d ∈ tables_1, d.before a0 Z = true) : (Jvm.Cond.initialized "java/lang/Math").before a0 Z = true := hw _ (List.mem_of_getElem? (i := 3) rfl)
theorem wd_4 {Z : State} {a0 : Array Value} (hw : ∀ d ∈ tables_1, d.before a0 Z = true) : (Jvm.Cond.code ({ cls := "java/lang/Math", name := "max", desc := "(II)I" } : Jvm.MethodName) jdk_29_method_65_code (2 : Nat) (Option.some Jvm.ClassFile.FieldType.int)).before a0 Z = true := hw _ (List.mem_of_getElem? (i := 4) rfl)
theorem wd_5 {Z : State} {a0 : Array Value} (hw : ∀ d ∈ tables_1, d.before a0 Z = true) : (Jvm.Cond.constant "com/example/nearterm/nearterm/evaluation/QueryEvaluationPrecisionAtPinLaw" (14 : Nat) (536870911 : Int32)).before a0 Z = true := hw _ (List.mem_of_getElem? (i := 5) rfl)
theorem wd_6 {Z : State} {a0 : Array Value} (hw : ∀ d ∈ tables_1, d.before a0 Z = true) : (Jvm.Cond.arrayClass Jvm.ClassFile.FieldType.int).before a0 Z = true := hw _ (List.mem_of_getElem? (i := 6) rfl)
theorem wd_7 {Z : State} {a0 : Array Value} (hw : ∀ d ∈ tables_1, d.before a0 Z = true) : (Jvm.Cond.constant "com/example/nearterm/nearterm/evaluation/QueryEvaluationPrecisionAtPinLaw" (15 : Nat) (65535 : Int32)).before a0 Z = true := hw _ (List.mem_of_getElem? (i := 7) rfl)
theorem wd_8 {Z : State} {a0 : Array Value} (hw : ∀ d ∈ tables_1, d.before a0 Z = true) : (Jvm.Cond.classLink "com/example/nearterm/nearterm/evaluation/QueryEvaluationPrecisionAtPinLaw" (16 : Nat) "com/example/nearterm/nearterm/evaluation/QueryEvaluation").before a0 Z = true := hw _ (List.mem_of_getElem? (i := 8) rfl)
theorem wd_9 {Z : State} {a0 : Array Value} (hw : ∀ d ∈ tables_1, d.before a0 Z = true) : (Jvm.Cond.instantiable "com/example/nearterm/nearterm/evaluation/QueryEvaluation" (3 : Nat)).before a0 Z = true := hw _ (List.mem_of_getElem? (i := 9) rfl)
theorem wd_10 {Z : State} {a0 : Array Value} (hw : ∀ d ∈ tables_1, d.before a0 Z = true) : (Jvm.Cond.initialized "com/example/nearterm/nearterm/evaluation/QueryEvaluation").before a0 Z = true := hw _ (List.mem_of_getElem? (i := 10) rfl)
theorem wd_11 {Z : State} {a0 : Array Value} (hw : ∀ d ∈ tables_1, d.before a0 Z = true) : (Jvm.Cond.methodLink "com/example/nearterm/nearterm/evaluation/QueryEvaluationPrecisionAtPinLaw" (18 : Nat) ({ cls := "com/example/nearterm/nearterm/evaluation/QueryEvaluation", name := "<init>", desc := "(II[I)V" } : Jvm.MethodName)).before a0 Z = true := hw _ (List.mem_of_getElem? (i := 11) rfl)
theorem wd_12 {Z : State} {a0 : Array Value} (hw : ∀ d ∈ tables_1, d.before a0 Z = true) : (Jvm.Cond.instanceMethod ({ cls := "com/example/nearterm/nearterm/evaluation/QueryEvaluation", name := "<init>", desc := "(II[I)V" } : Jvm.MethodName)).before a0 Z = true := hw _ (List.mem_of_getElem? (i := 12) rfl)
theorem wd_13 {Z : State} {a0 : Array Value} (hw : ∀ d ∈ tables_1, d.before a0 Z = true) : (Jvm.Cond.code ({ cls := "com/example/nearterm/nearterm/evaluation/QueryEvaluation", name := "<init>", desc := "(II[I)V" } : Jvm.MethodName) prog_31_method_1_code (4 : Nat) (Option.none : Option Jvm.ClassFile.FieldType)).before a0 Z = true := hw _ (List.mem_of_getElem? (i := 13) rfl)
theorem wd_14 {Z : State} {a0 : Array Value} (hw : ∀ d ∈ tables_1, d.before a0 Z = true) : (Jvm.Cond.methodLink "com/example/nearterm/nearterm/evaluation/QueryEvaluation" (1 : Nat) ({ cls := "java/lang/Object", name := "<init>", desc := "()V" } : Jvm.MethodName)).before a0 Z = true := hw _ (List.mem_of_getElem? (i := 14) rfl)
theorem wd_15 {Z : State} {a0 : Array Value} (hw : ∀ d ∈ tables_1, d.before a0 Z = true) : (Jvm.Cond.instanceMethod ({ cls := "java/lang/Object", name := "<init>", desc := "()V" } : Jvm.MethodName)).before a0 Z = true := hw _ (List.mem_of_getElem? (i := 15) rfl)
theorem wd_16 {Z : State} {a0 : Array Value} (hw : ∀ d ∈ tables_1, d.before a0 Z = true) : (Jvm.Cond.code ({ cls := "java/lang/Object", name := "<init>", desc := "()V" } : Jvm.MethodName) object_method_1_code (1 : Nat) (Option.none : Option Jvm.ClassFile.FieldType)).before a0 Z = true := hw _ (List.mem_of_getElem? (i := 16) rfl)
theorem wd_17 {Z : State} {a0 : Array Value} (hw : ∀ d ∈ tables_1, d.before a0 Z = true) : (Jvm.Cond.fieldLink "com/example/nearterm/nearterm/evaluation/QueryEvaluation" (7 : Nat) "com/example/nearterm/nearterm/evaluation/QueryEvaluation" "retrieved" "I").before a0 Z = true := hw _ (List.mem_of_getElem? (i := 17) rfl)
theorem wd_18 {Z : State} {a0 : Array Value} (hw : ∀ d ∈ tables_1, d.before a0 Z = true) : (Jvm.Cond.laysFinal "com/example/nearterm/nearterm/evaluation/QueryEvaluation" "com/example/nearterm/nearterm/evaluation/QueryEvaluation" "retrieved" "I").before a0 Z = true := hw _ (List.mem_of_getElem? (i := 18) rfl)
theorem wd_19 {Z : State} {a0 : Array Value} (hw : ∀ d ∈ tables_1, d.before a0 Z = true) : (Jvm.Cond.fieldLink "com/example/nearterm/nearterm/evaluation/QueryEvaluation" (13 : Nat) "com/example/nearterm/nearterm/evaluation/QueryEvaluation" "relevant" "I").before a0 Z = true := hw _ (List.mem_of_getElem? (i := 19) rfl)
theorem wd_20 {Z : State} {a0 : Array Value} (hw : ∀ d ∈ tables_1, d.before a0 Z = true) : (Jvm.Cond.laysFinal "com/example/nearterm/nearterm/evaluation/QueryEvaluation" "com/example/nearterm/nearterm/evaluation/QueryEvaluation" "relevant" "I").before a0 Z = true := hw _ (List.mem_of_getElem? (i := 20) rfl)
theorem wd_21 {Z : State} {a0 : Array Value} (hw : ∀ d ∈ tables_1, d.before a0 Z = true) : (Jvm.Cond.fieldLink "com/example/nearterm/nearterm/evaluation/QueryEvaluation" (16 : Nat) "com/example/nearterm/nearterm/evaluation/QueryEvaluation" "relevantRanks" "[I").before a0 Z = true := hw _ (List.mem_of_getElem? (i := 21) rfl)
theorem wd_22 {Z : State} {a0 : Array Value} (hw : ∀ d ∈ tables_1, d.before a0 Z = true) : (Jvm.Cond.laysFinal "com/example/nearterm/nearterm/evaluation/QueryEvaluation" "com/example/nearterm/nearterm/evaluation/QueryEvaluation" "relevantRanks" "[I").before a0 Z = true := hw _ (List.mem_of_getElem? (i := 22) rfl)
theorem wd_23 {Z : State} {a0 : Array Value} (hw : ∀ d ∈ tables_1, d.before a0 Z = true) : (Jvm.Cond.methodLink "com/example/nearterm/nearterm/evaluation/QueryEvaluationPrecisionAtPinLaw" (21 : Nat) ({ cls := "com/example/nearterm/nearterm/evaluation/QueryEvaluation", name := "precisionAt", desc := "(I)D" } : Jvm.MethodName)).before a0 Z = true := hw _ (List.mem_of_getElem? (i := 23) rfl)
theorem wd_24 {Z : State} {a0 : Array Value} (hw : ∀ d ∈ tables_1, d.before a0 Z = true) : (Jvm.Cond.declares ({ cls := "com/example/nearterm/nearterm/evaluation/QueryEvaluation", name := "precisionAt", desc := "(I)D" } : Jvm.MethodName)).before a0 Z = true := hw _ (List.mem_of_getElem? (i := 24) rfl)
theorem wd_25 {Z : State} {a0 : Array Value} (hw : ∀ d ∈ tables_1, d.before a0 Z = true) : (Jvm.Cond.instanceMethod ({ cls := "com/example/nearterm/nearterm/evaluation/QueryEvaluation", name := "precisionAt", desc := "(I)D" } : Jvm.MethodName)).before a0 Z = true := hw _ (List.mem_of_getElem? (i := 25) rfl)
theorem wd_26 {Z : State} {a0 : Array Value} (hw : ∀ d ∈ tables_1, d.before a0 Z = true) : (Jvm.Cond.selects "com/example/nearterm/nearterm/evaluation/QueryEvaluation" ({ cls := "com/example/nearterm/nearterm/evaluation/QueryEvaluation", name := "precisionAt", desc := "(I)D" } : Jvm.MethodName) ({ cls := "com/example/nearterm/nearterm/evaluation/QueryEvaluation", name := "precisionAt", desc := "(I)D" } : Jvm.MethodName)).before a0 Z = true := hw _ (List.mem_of_getElem? (i := 26) rfl)
theorem wd_27 {Z : State} {a0 : Array Value} (hw : ∀ d ∈ tables_1, d.before a0 Z = true) : (Jvm.Cond.code ({ cls := "com/example/nearterm/nearterm/evaluation/QueryEvaluation", name := "precisionAt", desc := "(I)D" } : Jvm.MethodName) prog_31_method_6_code (3 : Nat) (Option.some Jvm.ClassFile.FieldType.double)).before a0 Z = true := hw _ (List.mem_of_getElem? (i := 27) rfl)
theorem la_QueryEvaluation {Z : State} {a0 : Array Value} (hw : ∀ d ∈ tables_1, d.before a0 Z = true) : LaidAll Z a0 "com/example/nearterm/nearterm/evaluation/QueryEvaluation" [("com/example/nearterm/nearterm/evaluation/QueryEvaluation", "retrieved", "I", .int 0), ("com/example/nearterm/nearterm/evaluation/QueryEvaluation", "relevant", "I", .int 0), ("com/example/nearterm/nearterm/evaluation/QueryEvaluation", "relevantRanks", "[I", .null)] := LaidAll.cons (Or.inr (wd_18 hw)) (t := .int) (by decide) rfl (LaidAll.cons (Or.inr (wd_20 hw)) (t := .int) (by decide) rfl (LaidAll.cons (Or.inr (wd_22 hw)) (t := (.array .int)) (by decide) rfl (LaidAll.nil)))
theorem ef_2 (m : MethodId) (x0 : Addr) (x1 : Int32) (x2 : Int32) (x3 : Addr) : entryFrame m #[.ref x0, .int x1, .int x2, .ref x3] 4 = mkF m 0 #[.val (.ref x0), .val (.int x1), .val (.int x2), .val (.ref x3)] [] := by first | (simp [entryFrame, mkF, argsToLocals, Value.category, maxLocals]; done) | rfl
theorem d2_0 : decode prog_31_method_1_code 0 = .ok (.aload_n 0, 1) := by decide +kernel
theorem d2_1 : decode prog_31_method_1_code 1 = .ok (.invokespecial 1, 3) := by decide +kernel
theorem d2_4 : decode prog_31_method_1_code 4 = .ok (.aload_n 0, 1) := by decide +kernel
theorem d2_5 : decode prog_31_method_1_code 5 = .ok (.iload_n 1, 1) := by decide +kernel
theorem d2_6 : decode prog_31_method_1_code 6 = .ok (.putfield 7, 3) := by decide +kernel
theorem d2_9 : decode prog_31_method_1_code 9 = .ok (.aload_n 0, 1) := by decide +kernel
theorem d2_10 : decode prog_31_method_1_code 10 = .ok (.iload_n 2, 1) := by decide +kernel
theorem d2_11 : decode prog_31_method_1_code 11 = .ok (.putfield 13, 3) := by decide +kernel
theorem d2_14 : decode prog_31_method_1_code 14 = .ok (.aload_n 0, 1) := by decide +kernel
theorem d2_15 : decode prog_31_method_1_code 15 = .ok (.aload_n 3, 1) := by decide +kernel
theorem d2_16 : decode prog_31_method_1_code 16 = .ok (.putfield 16, 3) := by decide +kernel
theorem d2_19 : decode prog_31_method_1_code 19 = .ok (.return_, 1) := by decide +kernel
theorem pn_QueryEvaluation : plainName "com/example/nearterm/nearterm/evaluation/QueryEvaluation" = true := by first | (simp [plainName, overriddenIn]; done) | decide +kernel
theorem ef_1 (m : MethodId) (x0 : Int32) (x1 : Int32) : entryFrame m #[.int x0, .int x1] 2 = mkF m 0 #[.val (.int x0), .val (.int x1)] [] := by first | (simp [entryFrame, mkF, argsToLocals, Value.category, maxLocals]; done) | rfl
theorem d1_0 : decode jdk_29_method_65_code 0 = .ok (.iload_n 0, 1) := by decide +kernel
theorem d1_1 : decode jdk_29_method_65_code 1 = .ok (.iload_n 1, 1) := by decide +kernel
theorem d1_2 : decode jdk_29_method_65_code 2 = .ok (.if_icmp .lt 7, 3) := by decide +kernel
theorem d1_9 : decode jdk_29_method_65_code 9 = .ok (.iload_n 1, 1) := by decide +kernel
theorem d1_10 : decode jdk_29_method_65_code 10 = .ok (.ireturn, 1) := by decide +kernel
theorem d1_5 : decode jdk_29_method_65_code 5 = .ok (.iload_n 0, 1) := by decide +kernel
theorem d1_6 : decode jdk_29_method_65_code 6 = .ok (.goto 4, 3) := by decide +kernel
theorem pf_1 : plainFor ⟨"java/lang/Math", "max", "(II)I"⟩ = true := by first | exact plainFor_of_name (by first | (simp [plainName, overriddenIn]; done) | decide +kernel) | decide +kernel
theorem ef_4 (m : MethodId) (x0 : Addr) (x1 : Int32) : entryFrame m #[.ref x0, .int x1] 3 = mkF m 0 #[.val (.ref x0), .val (.int x1), .unset] [] := by first | (simp [entryFrame, mkF, argsToLocals, Value.category, maxLocals]; done) | rfl
theorem d4_0 : decode prog_31_method_6_code 0 = .ok (.iload_n 1, 1) := by decide +kernel
theorem d4_1 : decode prog_31_method_6_code 1 = .ok (.iconst 1, 1) := by decide +kernel
theorem d4_2 : decode prog_31_method_6_code 2 = .ok (.if_icmp .ge 17, 3) := by decide +kernel
theorem d4_19 : decode prog_31_method_6_code 19 = .ok (.iconst 0, 1) := by decide +kernel
theorem d4_20 : decode prog_31_method_6_code 20 = .ok (.istore_n 2, 1) := by decide +kernel
theorem d4_21 : decode prog_31_method_6_code 21 = .ok (.iload_n 2, 1) := by decide +kernel
theorem d4_22 : decode prog_31_method_6_code 22 = .ok (.aload_n 0, 1) := by decide +kernel
theorem d4_23 : decode prog_31_method_6_code 23 = .ok (.getfield 16, 3) := by decide +kernel
theorem d4_26 : decode prog_31_method_6_code 26 = .ok (.arraylength, 1) := by decide +kernel
theorem d4_27 : decode prog_31_method_6_code 27 = .ok (.if_icmp .ge 19, 3) := by decide +kernel
theorem d4_46 : decode prog_31_method_6_code 46 = .ok (.iload_n 2, 1) := by decide +kernel
theorem d4_47 : decode prog_31_method_6_code 47 = .ok (.i2d, 1) := by decide +kernel
theorem d4_48 : decode prog_31_method_6_code 48 = .ok (.iload_n 1, 1) := by decide +kernel
theorem d4_49 : decode prog_31_method_6_code 49 = .ok (.i2d, 1) := by decide +kernel
theorem d4_50 : decode prog_31_method_6_code 50 = .ok (.ddiv, 1) := by decide +kernel
theorem d4_51 : decode prog_31_method_6_code 51 = .ok (.dreturn, 1) := by decide +kernel
theorem d4_30 : decode prog_31_method_6_code 30 = .ok (.aload_n 0, 1) := by decide +kernel
theorem d4_31 : decode prog_31_method_6_code 31 = .ok (.getfield 16, 3) := by decide +kernel
theorem d4_34 : decode prog_31_method_6_code 34 = .ok (.iload_n 2, 1) := by decide +kernel
theorem d4_35 : decode prog_31_method_6_code 35 = .ok (.iaload, 1) := by decide +kernel
theorem d4_36 : decode prog_31_method_6_code 36 = .ok (.iload_n 1, 1) := by decide +kernel
theorem d4_37 : decode prog_31_method_6_code 37 = .ok (.if_icmp .gt 9, 3) := by decide +kernel
theorem d4_40 : decode prog_31_method_6_code 40 = .ok (.iinc 2 1, 3) := by decide +kernel
theorem d4_43 : decode prog_31_method_6_code 43 = .ok (.goto (-22), 3) := by decide +kernel
theorem ef_0 (m : MethodId) (x0 : Int32) (x1 : Int32) (x2 : Int32) (x3 : Int32) (x4 : Int32) (x5 : Int32) : entryFrame m #[.int x0, .int x1, .int x2, .int x3, .int x4, .int x5] maxLocals = mkF m 0 #[.val (.int x0), .val (.int x1), .val (.int x2), .val (.int x3), .val (.int x4), .val (.int x5), .unset, .unset, .unset, .unset, .unset, .unset, .unset, .unset, .unset, .unset, .unset, .unset, .unset] [] := by first | (simp [entryFrame, mkF, argsToLocals, Value.category, maxLocals]; done) | rfl
theorem pd_0 : parseMethodDescriptor "(II)I" = some ⟨[.int, .int], some .int⟩ := by decide +kernel
theorem pd_1 : parseMethodDescriptor "(II[I)V" = some ⟨[.int, .int, (.array .int)], none⟩ := by decide +kernel
theorem pd_2 : parseMethodDescriptor "(I)D" = some ⟨[.int], some .double⟩ := by decide +kernel
theorem pn_QueryEvaluationPrecisionAtPinLaw : plainName "com/example/nearterm/nearterm/evaluation/QueryEvaluationPrecisionAtPinLaw" = true := by first | (simp [plainName, overriddenIn]; done) | decide +kernel

theorem own_nz {r : Int32} (h : ¬ r < 1) : r ≠ 0 := fun q => by subst q; exact h (by decide)
theorem own_div {a r : Int32} (hr : r ≠ 0) : NoNaN64 (FP.ddiv (FP.i2d a) (FP.i2d r)) := by
  refine ddiv_out (i2d_fin a).noNaN (i2d_fin r) ?_
  exact nz64_core.mpr (fun q => absurd ((Jvm.FP.Core.zero_bits2 _).mp q) (Jvm.FP.Core.i2d_ne_zero hr))
theorem own_lt {a b d : Int32} (h : a < b) (h2 : d < a) : d < b := by rw [Int32.lt_iff_toInt_lt] at *; omega
theorem own_lt' {a b d : Int32} (h : a < b) (h2 : ¬ d < b) : ¬ d < a := fun q => h2 (own_lt h q)
theorem own_r1 (b : Int32) : ((1 : Int32) + (b &&& 536870911)).toInt = 1 + b.toInt % 536870912 := by
  have h := Kit.i32_mask b 536870911 (k := 29) (by decide) (by decide)
  rw [Kit.i32_add (by rw [show (1 : Int32).toInt = 1 by decide]; omega) (by rw [show (1 : Int32).toInt = 1 by decide]; omega), h]
  rfl
theorem own_rn {x b : Int32} (h1 : 0 < x.toInt) (h2 : x.toInt < 1200000000) : ((x + (1 : Int32)) + (b &&& 536870911)).toInt = x.toInt + 1 + b.toInt % 536870912 := by
  have h := Kit.i32_mask b 536870911 (k := 29) (by decide) (by decide)
  have e1 : (1 : Int32).toInt = 1 := by decide
  have h3 : (x + (1 : Int32)).toInt = x.toInt + 1 := by rw [Kit.i32_add (by rw [e1]; omega) (by rw [e1]; omega), e1]
  rw [Kit.i32_add (by rw [h3]; omega) (by rw [h3]; omega), h3, h]
  rfl
theorem own_ranks (b d e : Int32) : ∃ r1 r2 r3 : Int32, r1 = (1 : Int32) + (b &&& 536870911) ∧ r2 = (r1 + (1 : Int32)) + (d &&& 536870911) ∧ r3 = (r2 + (1 : Int32)) + (e &&& 536870911) ∧ r1 ≠ 0 ∧ r2 ≠ 0 ∧ r3 ≠ 0 ∧ r1 < r2 ∧ r2 < r3 := by
  have h1 := own_r1 b
  have h2 := own_rn (x := (1 : Int32) + (b &&& 536870911)) (b := d) (by omega) (by omega)
  have h3 := own_rn (x := ((1 : Int32) + (b &&& 536870911)) + (1 : Int32) + (d &&& 536870911)) (b := e) (by omega) (by omega)
  have z : (0 : Int32).toInt = 0 := by decide
  refine ⟨_, _, _, rfl, rfl, rfl, ?_, ?_, ?_, ?_, ?_⟩
  · intro q; rw [q, z] at h1; omega
  · intro q; rw [q, z] at h2; omega
  · intro q; rw [q, z] at h3; omega
  · rw [Int32.lt_iff_toInt_lt]; omega
  · rw [Int32.lt_iff_toInt_lt]; omega

set_option maxRecDepth 65536 in
set_option maxHeartbeats 40000000 in
theorem c_init (l : Launch) (Z : State) (a0 : Array Value) (hw : ∀ d ∈ tables_1, d.before a0 Z = true) (n0 : Nat) (a ra : Addr) (t rel : Int32) (h0 : Heap) (F : List HRow) (H00 : Hp Z n0 h0 ((a, ObC Z "com/example/nearterm/nearterm/evaluation/QueryEvaluation" [("com/example/nearterm/nearterm/evaluation/QueryEvaluation", "retrieved", "I", .int 0), ("com/example/nearterm/nearterm/evaluation/QueryEvaluation", "relevant", "I", .int 0), ("com/example/nearterm/nearterm/evaluation/QueryEvaluation", "relevantRanks", "[I", .null)]) :: F)) :
    Con l Z n0 ⟨"com/example/nearterm/nearterm/evaluation/QueryEvaluation", "<init>", "(II[I)V"⟩ [] prog_31_method_1_code 4 none ({ frames := 1, cells := 0, slots := 0, locals := 12 } : Room) #[.ref a, .int t, .int rel, .ref ra] h0 (fun v h => v = none ∧ Hp Z n0 h ((a, ObC Z "com/example/nearterm/nearterm/evaluation/QueryEvaluation" [("com/example/nearterm/nearterm/evaluation/QueryEvaluation", "retrieved", "I", .int t), ("com/example/nearterm/nearterm/evaluation/QueryEvaluation", "relevant", "I", .int rel), ("com/example/nearterm/nearterm/evaluation/QueryEvaluation", "relevantRanks", "[I", .ref ra)]) :: F)) := by
  refine con_of (plainFor_of_name pn_QueryEvaluation) ?_
  intro p e s m below meth c T0 W0 e0
  have H0 : Hp Z n0 T0.heap ((a, ObC Z "com/example/nearterm/nearterm/evaluation/QueryEvaluation" [("com/example/nearterm/nearterm/evaluation/QueryEvaluation", "retrieved", "I", .int 0), ("com/example/nearterm/nearterm/evaluation/QueryEvaluation", "relevant", "I", .int 0), ("com/example/nearterm/nearterm/evaluation/QueryEvaluation", "relevantRanks", "[I", .null)]) :: F) := e0 ▸ H00
  refine g_cast (ef_2 m a t rel ra) ?_
  refine g_aloadN W0 d2_0 (pc' := 1) rfl rfl rfl ?_
  refine g_initO W0 (wd_14 hw) (wd_15 hw) (wd_16 hw) H0 rfl d2_1 (pc' := 4) rfl (by decide) (Wn := 0) (Nat.le_of_eq rfl) (by decide) ?_
  intro T1 W1 H1
  refine g_aloadN W1 d2_4 (pc' := 5) rfl rfl rfl ?_
  refine g_iloadN W1 d2_5 (pc' := 6) rfl rfl ?_
  refine g_putf W1 (wd_17 hw) Via.refl (Or.inr ⟨(wd_18 hw), rfl, rfl⟩) (wd_9 hw) (ty := .int) (by decide) rfl rfl H1 (i := 0) rfl (jx := 0) rfl d2_6 (pc' := 9) rfl (L' := ((a, ObC Z "com/example/nearterm/nearterm/evaluation/QueryEvaluation" [("com/example/nearterm/nearterm/evaluation/QueryEvaluation", "retrieved", "I", .int t), ("com/example/nearterm/nearterm/evaluation/QueryEvaluation", "relevant", "I", .int 0), ("com/example/nearterm/nearterm/evaluation/QueryEvaluation", "relevantRanks", "[I", .null)]) :: F)) rfl ?_
  intro T2 W2 H2
  refine g_aloadN W2 d2_9 (pc' := 10) rfl rfl rfl ?_
  refine g_iloadN W2 d2_10 (pc' := 11) rfl rfl ?_
  refine g_putf W2 (wd_19 hw) Via.refl (Or.inr ⟨(wd_20 hw), rfl, rfl⟩) (wd_9 hw) (ty := .int) (by decide) rfl rfl H2 (i := 0) rfl (jx := 1) rfl d2_11 (pc' := 14) rfl (L' := ((a, ObC Z "com/example/nearterm/nearterm/evaluation/QueryEvaluation" [("com/example/nearterm/nearterm/evaluation/QueryEvaluation", "retrieved", "I", .int t), ("com/example/nearterm/nearterm/evaluation/QueryEvaluation", "relevant", "I", .int rel), ("com/example/nearterm/nearterm/evaluation/QueryEvaluation", "relevantRanks", "[I", .null)]) :: F)) rfl ?_
  intro T3 W3 H3
  refine g_aloadN W3 d2_14 (pc' := 15) rfl rfl rfl ?_
  refine g_aloadN W3 d2_15 (pc' := 16) rfl rfl rfl ?_
  refine g_putf W3 (wd_21 hw) Via.refl (Or.inr ⟨(wd_22 hw), rfl, rfl⟩) (wd_9 hw) (ty := (.array .int)) (by decide) rfl rfl H3 (i := 0) rfl (jx := 2) rfl d2_16 (pc' := 19) rfl (L' := ((a, ObC Z "com/example/nearterm/nearterm/evaluation/QueryEvaluation" [("com/example/nearterm/nearterm/evaluation/QueryEvaluation", "retrieved", "I", .int t), ("com/example/nearterm/nearterm/evaluation/QueryEvaluation", "relevant", "I", .int rel), ("com/example/nearterm/nearterm/evaluation/QueryEvaluation", "relevantRanks", "[I", .ref ra)]) :: F)) rfl ?_
  intro T4 W4 H4
  exact g_return W4 d2_19 ⟨rfl, H4⟩ (by decide) (by decide)
set_option maxRecDepth 65536 in
set_option maxHeartbeats 40000000 in
theorem c_max (l : Launch) (Z : State) (a0 : Array Value) (hw : ∀ d ∈ tables_1, d.before a0 Z = true) (n0 : Nat) (q0 q1 : Int32) (h0 : Heap) (F : List HRow) (H00 : Hp Z n0 h0 F) :
    Con l Z n0 ⟨"java/lang/Math", "max", "(II)I"⟩ [] jdk_29_method_65_code 2 (some .int) ({ frames := 0, cells := 0, slots := 0, locals := 0 } : Room) #[.int q0, .int q1] h0 (fun v h => (∃ r : Int32, v = some (.int r) ∧ ¬ r < q0) ∧ Hp Z n0 h F) := by
  refine con_of pf_1 ?_
  intro p e s m below meth c T0 W0 e0
  have H0 : Hp Z n0 T0.heap F := e0 ▸ H00
  refine g_cast (ef_1 m q0 q1) ?_
  refine g_iloadN W0 d1_0 (pc' := 1) rfl rfl ?_
  refine g_iloadN W0 d1_1 (pc' := 2) rfl rfl ?_
  refine g_icmp W0 d1_2 (pcy := 9) (by decide) (pc' := 5) rfl (fun (c1 : q0 < q1) => ?_) (fun (c1 : ¬ q0 < q1) => ?_)
  · refine g_iloadN W0 d1_9 (pc' := 10) rfl rfl ?_
    exact g_ireturn W0 d1_10 ⟨⟨_, rfl, fun q => by rw [Int32.lt_iff_toInt_lt] at c1 q; omega⟩, H0⟩ (by decide) (by decide)
  · refine g_iloadN W0 d1_5 (pc' := 6) rfl rfl ?_
    refine g_goto W0 d1_6 (pc' := 10) (by decide) ?_
    exact g_ireturn W0 d1_10 ⟨⟨_, rfl, fun q => by rw [Int32.lt_iff_toInt_lt] at q; omega⟩, H0⟩ (by decide) (by decide)
set_option maxRecDepth 65536 in
set_option maxHeartbeats 40000000 in
theorem c_pa00 (l : Launch) (Z : State) (a0 : Array Value) (hw : ∀ d ∈ tables_1, d.before a0 Z = true) (n0 : Nat) (a ra : Addr) (t rel : Int32)  (d : Int32) (hd : ¬ d < 1)  (h0 : Heap) (F : List HRow) (H00 : Hp Z n0 h0 ((a, ObC Z "com/example/nearterm/nearterm/evaluation/QueryEvaluation" [("com/example/nearterm/nearterm/evaluation/QueryEvaluation", "retrieved", "I", .int t), ("com/example/nearterm/nearterm/evaluation/QueryEvaluation", "relevant", "I", .int rel), ("com/example/nearterm/nearterm/evaluation/QueryEvaluation", "relevantRanks", "[I", .ref ra)]) :: (ra, ArC Z .int []) :: F)) :
    Con l Z n0 ⟨"com/example/nearterm/nearterm/evaluation/QueryEvaluation", "precisionAt", "(I)D"⟩ [] prog_31_method_6_code 3 (some .double) ({ frames := 0, cells := 0, slots := 0, locals := 0 } : Room) #[.ref a, .int d] h0 (fun v h => v = some (.double (FP.ddiv (FP.i2d (0 : Int32)) (FP.i2d d))) ∧ Hp Z n0 h ((a, ObC Z "com/example/nearterm/nearterm/evaluation/QueryEvaluation" [("com/example/nearterm/nearterm/evaluation/QueryEvaluation", "retrieved", "I", .int t), ("com/example/nearterm/nearterm/evaluation/QueryEvaluation", "relevant", "I", .int rel), ("com/example/nearterm/nearterm/evaluation/QueryEvaluation", "relevantRanks", "[I", .ref ra)]) :: (ra, ArC Z .int []) :: F)) := by
  refine con_of (plainFor_of_name pn_QueryEvaluation) ?_
  intro p e s m below meth c T0 W0 e0
  have H0 : Hp Z n0 T0.heap ((a, ObC Z "com/example/nearterm/nearterm/evaluation/QueryEvaluation" [("com/example/nearterm/nearterm/evaluation/QueryEvaluation", "retrieved", "I", .int t), ("com/example/nearterm/nearterm/evaluation/QueryEvaluation", "relevant", "I", .int rel), ("com/example/nearterm/nearterm/evaluation/QueryEvaluation", "relevantRanks", "[I", .ref ra)]) :: (ra, ArC Z .int []) :: F) := e0 ▸ H00
  refine g_cast (ef_4 m a d) ?_
  refine g_iloadN W0 d4_0 (pc' := 1) rfl rfl ?_
  refine g_iconst W0 d4_1 (pc' := 2) rfl (v := (1 : Int32)) (by decide) ?_
  refine g_icmp W0 d4_2 (pcy := 19) (by decide) (pc' := 5) rfl (fun (c1 : ¬ d < (1 : Int32)) => ?_) (fun (c1 : ¬ ¬ d < (1 : Int32)) => ?_)
  · refine g_iconst W0 d4_19 (pc' := 20) rfl (v := (0 : Int32)) (by decide) ?_
    refine g_istoreN W0 d4_20 (pc' := 21) rfl (ls' := #[.val (.ref a), .val (.int d), .val (.int (0 : Int32))]) rfl ?_
    refine g_iloadN W0 d4_21 (pc' := 22) rfl rfl ?_
    refine g_aloadN W0 d4_22 (pc' := 23) rfl rfl rfl ?_
    refine g_getf W0 (wd_21 hw) Via.refl H0 (i := 0) rfl (jx := 2) rfl d4_23 (pc' := 26) rfl ?_
    intro T2 W2 H2
    refine g_arrlen W2 H2 (i := 1) rfl (x := (0 : Int32)) rfl d4_26 (pc' := 27) rfl ?_
    refine g_icmp W2 d4_27 (pcy := 46) (by decide) (pc' := 30) rfl (fun _ => ?_) (fun (h : ¬ ¬ (0 : Int32) < (0 : Int32)) => absurd h (by decide))
    refine g_iloadN W2 d4_46 (pc' := 47) rfl rfl ?_
    refine g_i2d W2 d4_47 (pc' := 48) rfl rfl ?_
    refine g_iloadN W2 d4_48 (pc' := 49) rfl rfl ?_
    refine g_i2d W2 d4_49 (pc' := 50) rfl rfl ?_
    refine g_ddiv W2 d4_50 (pc' := 51) rfl rfl (own_div (own_nz hd)) ?_
    exact g_dreturn W2 d4_51 ⟨rfl, H2⟩ (by decide) (by decide)
  · replace c1 := Classical.not_not.mp c1
    exact absurd c1 hd
set_option maxRecDepth 65536 in
set_option maxHeartbeats 40000000 in
theorem c_pa10 (l : Launch) (Z : State) (a0 : Array Value) (hw : ∀ d ∈ tables_1, d.before a0 Z = true) (n0 : Nat) (a ra : Addr) (t rel : Int32) (r1 : Int32) (d : Int32) (hd : ¬ d < 1)  (h1 : d < r1) (h0 : Heap) (F : List HRow) (H00 : Hp Z n0 h0 ((a, ObC Z "com/example/nearterm/nearterm/evaluation/QueryEvaluation" [("com/example/nearterm/nearterm/evaluation/QueryEvaluation", "retrieved", "I", .int t), ("com/example/nearterm/nearterm/evaluation/QueryEvaluation", "relevant", "I", .int rel), ("com/example/nearterm/nearterm/evaluation/QueryEvaluation", "relevantRanks", "[I", .ref ra)]) :: (ra, ArC Z .int [.int r1]) :: F)) :
    Con l Z n0 ⟨"com/example/nearterm/nearterm/evaluation/QueryEvaluation", "precisionAt", "(I)D"⟩ [] prog_31_method_6_code 3 (some .double) ({ frames := 0, cells := 0, slots := 0, locals := 0 } : Room) #[.ref a, .int d] h0 (fun v h => v = some (.double (FP.ddiv (FP.i2d (0 : Int32)) (FP.i2d d))) ∧ Hp Z n0 h ((a, ObC Z "com/example/nearterm/nearterm/evaluation/QueryEvaluation" [("com/example/nearterm/nearterm/evaluation/QueryEvaluation", "retrieved", "I", .int t), ("com/example/nearterm/nearterm/evaluation/QueryEvaluation", "relevant", "I", .int rel), ("com/example/nearterm/nearterm/evaluation/QueryEvaluation", "relevantRanks", "[I", .ref ra)]) :: (ra, ArC Z .int [.int r1]) :: F)) := by
  refine con_of (plainFor_of_name pn_QueryEvaluation) ?_
  intro p e s m below meth c T0 W0 e0
  have H0 : Hp Z n0 T0.heap ((a, ObC Z "com/example/nearterm/nearterm/evaluation/QueryEvaluation" [("com/example/nearterm/nearterm/evaluation/QueryEvaluation", "retrieved", "I", .int t), ("com/example/nearterm/nearterm/evaluation/QueryEvaluation", "relevant", "I", .int rel), ("com/example/nearterm/nearterm/evaluation/QueryEvaluation", "relevantRanks", "[I", .ref ra)]) :: (ra, ArC Z .int [.int r1]) :: F) := e0 ▸ H00
  refine g_cast (ef_4 m a d) ?_
  refine g_iloadN W0 d4_0 (pc' := 1) rfl rfl ?_
  refine g_iconst W0 d4_1 (pc' := 2) rfl (v := (1 : Int32)) (by decide) ?_
  refine g_icmp W0 d4_2 (pcy := 19) (by decide) (pc' := 5) rfl (fun (c1 : ¬ d < (1 : Int32)) => ?_) (fun (c1 : ¬ ¬ d < (1 : Int32)) => ?_)
  · refine g_iconst W0 d4_19 (pc' := 20) rfl (v := (0 : Int32)) (by decide) ?_
    refine g_istoreN W0 d4_20 (pc' := 21) rfl (ls' := #[.val (.ref a), .val (.int d), .val (.int (0 : Int32))]) rfl ?_
    refine g_iloadN W0 d4_21 (pc' := 22) rfl rfl ?_
    refine g_aloadN W0 d4_22 (pc' := 23) rfl rfl rfl ?_
    refine g_getf W0 (wd_21 hw) Via.refl H0 (i := 0) rfl (jx := 2) rfl d4_23 (pc' := 26) rfl ?_
    intro T2 W2 H2
    refine g_arrlen W2 H2 (i := 1) rfl (x := (1 : Int32)) rfl d4_26 (pc' := 27) rfl ?_
    refine g_icmp W2 d4_27 (pcy := 46) (by decide) (pc' := 30) rfl (fun (h : ¬ (0 : Int32) < (1 : Int32)) => absurd h (by decide)) (fun _ => ?_)
    refine g_aloadN W2 d4_30 (pc' := 31) rfl rfl rfl ?_
    refine g_getf W2 (wd_21 hw) Via.refl H2 (i := 0) rfl (jx := 2) rfl d4_31 (pc' := 34) rfl ?_
    intro T3 W3 H3
    refine g_iloadN W3 d4_34 (pc' := 35) rfl rfl ?_
    refine g_iaload W3 H3 (i := 1) rfl (jx := 0) (by decide) (v := .int r1) rfl d4_35 (pc' := 36) rfl ?_
    refine g_iloadN W3 d4_36 (pc' := 37) rfl rfl ?_
    refine g_icmp W3 d4_37 (pcy := 46) (by decide) (pc' := 40) rfl (fun _ => ?_) (fun h => absurd h1 h)
    refine g_iloadN W3 d4_46 (pc' := 47) rfl rfl ?_
    refine g_i2d W3 d4_47 (pc' := 48) rfl rfl ?_
    refine g_iloadN W3 d4_48 (pc' := 49) rfl rfl ?_
    refine g_i2d W3 d4_49 (pc' := 50) rfl rfl ?_
    refine g_ddiv W3 d4_50 (pc' := 51) rfl rfl (own_div (own_nz hd)) ?_
    exact g_dreturn W3 d4_51 ⟨rfl, H3⟩ (by decide) (by decide)
  · replace c1 := Classical.not_not.mp c1
    exact absurd c1 hd
set_option maxRecDepth 65536 in
set_option maxHeartbeats 40000000 in
theorem c_pa11 (l : Launch) (Z : State) (a0 : Array Value) (hw : ∀ d ∈ tables_1, d.before a0 Z = true) (n0 : Nat) (a ra : Addr) (t rel : Int32) (r1 : Int32) (d : Int32) (hd : ¬ d < 1) (h1 : ¬ d < r1) (h0 : Heap) (F : List HRow) (H00 : Hp Z n0 h0 ((a, ObC Z "com/example/nearterm/nearterm/evaluation/QueryEvaluation" [("com/example/nearterm/nearterm/evaluation/QueryEvaluation", "retrieved", "I", .int t), ("com/example/nearterm/nearterm/evaluation/QueryEvaluation", "relevant", "I", .int rel), ("com/example/nearterm/nearterm/evaluation/QueryEvaluation", "relevantRanks", "[I", .ref ra)]) :: (ra, ArC Z .int [.int r1]) :: F)) :
    Con l Z n0 ⟨"com/example/nearterm/nearterm/evaluation/QueryEvaluation", "precisionAt", "(I)D"⟩ [] prog_31_method_6_code 3 (some .double) ({ frames := 0, cells := 0, slots := 0, locals := 0 } : Room) #[.ref a, .int d] h0 (fun v h => v = some (.double (FP.ddiv (FP.i2d (1 : Int32)) (FP.i2d d))) ∧ Hp Z n0 h ((a, ObC Z "com/example/nearterm/nearterm/evaluation/QueryEvaluation" [("com/example/nearterm/nearterm/evaluation/QueryEvaluation", "retrieved", "I", .int t), ("com/example/nearterm/nearterm/evaluation/QueryEvaluation", "relevant", "I", .int rel), ("com/example/nearterm/nearterm/evaluation/QueryEvaluation", "relevantRanks", "[I", .ref ra)]) :: (ra, ArC Z .int [.int r1]) :: F)) := by
  refine con_of (plainFor_of_name pn_QueryEvaluation) ?_
  intro p e s m below meth c T0 W0 e0
  have H0 : Hp Z n0 T0.heap ((a, ObC Z "com/example/nearterm/nearterm/evaluation/QueryEvaluation" [("com/example/nearterm/nearterm/evaluation/QueryEvaluation", "retrieved", "I", .int t), ("com/example/nearterm/nearterm/evaluation/QueryEvaluation", "relevant", "I", .int rel), ("com/example/nearterm/nearterm/evaluation/QueryEvaluation", "relevantRanks", "[I", .ref ra)]) :: (ra, ArC Z .int [.int r1]) :: F) := e0 ▸ H00
  refine g_cast (ef_4 m a d) ?_
  refine g_iloadN W0 d4_0 (pc' := 1) rfl rfl ?_
  refine g_iconst W0 d4_1 (pc' := 2) rfl (v := (1 : Int32)) (by decide) ?_
  refine g_icmp W0 d4_2 (pcy := 19) (by decide) (pc' := 5) rfl (fun (c1 : ¬ d < (1 : Int32)) => ?_) (fun (c1 : ¬ ¬ d < (1 : Int32)) => ?_)
  · refine g_iconst W0 d4_19 (pc' := 20) rfl (v := (0 : Int32)) (by decide) ?_
    refine g_istoreN W0 d4_20 (pc' := 21) rfl (ls' := #[.val (.ref a), .val (.int d), .val (.int (0 : Int32))]) rfl ?_
    refine g_iloadN W0 d4_21 (pc' := 22) rfl rfl ?_
    refine g_aloadN W0 d4_22 (pc' := 23) rfl rfl rfl ?_
    refine g_getf W0 (wd_21 hw) Via.refl H0 (i := 0) rfl (jx := 2) rfl d4_23 (pc' := 26) rfl ?_
    intro T2 W2 H2
    refine g_arrlen W2 H2 (i := 1) rfl (x := (1 : Int32)) rfl d4_26 (pc' := 27) rfl ?_
    refine g_icmp W2 d4_27 (pcy := 46) (by decide) (pc' := 30) rfl (fun (h : ¬ (0 : Int32) < (1 : Int32)) => absurd h (by decide)) (fun _ => ?_)
    refine g_aloadN W2 d4_30 (pc' := 31) rfl rfl rfl ?_
    refine g_getf W2 (wd_21 hw) Via.refl H2 (i := 0) rfl (jx := 2) rfl d4_31 (pc' := 34) rfl ?_
    intro T3 W3 H3
    refine g_iloadN W3 d4_34 (pc' := 35) rfl rfl ?_
    refine g_iaload W3 H3 (i := 1) rfl (jx := 0) (by decide) (v := .int r1) rfl d4_35 (pc' := 36) rfl ?_
    refine g_iloadN W3 d4_36 (pc' := 37) rfl rfl ?_
    refine g_icmp W3 d4_37 (pcy := 46) (by decide) (pc' := 40) rfl (fun h => absurd h h1) (fun _ => ?_)
    refine g_iinc W3 d4_40 (pc' := 43) rfl rfl (v := (1 : Int32)) (by decide) (ls' := #[.val (.ref a), .val (.int d), .val (.int (1 : Int32))]) rfl ?_
    refine g_goto W3 d4_43 (pc' := 21) (by decide) ?_
    refine g_iloadN W3 d4_21 (pc' := 22) rfl rfl ?_
    refine g_aloadN W3 d4_22 (pc' := 23) rfl rfl rfl ?_
    refine g_getf W3 (wd_21 hw) Via.refl H3 (i := 0) rfl (jx := 2) rfl d4_23 (pc' := 26) rfl ?_
    intro T4 W4 H4
    refine g_arrlen W4 H4 (i := 1) rfl (x := (1 : Int32)) rfl d4_26 (pc' := 27) rfl ?_
    refine g_icmp W4 d4_27 (pcy := 46) (by decide) (pc' := 30) rfl (fun _ => ?_) (fun (h : ¬ ¬ (1 : Int32) < (1 : Int32)) => absurd h (by decide))
    refine g_iloadN W4 d4_46 (pc' := 47) rfl rfl ?_
    refine g_i2d W4 d4_47 (pc' := 48) rfl rfl ?_
    refine g_iloadN W4 d4_48 (pc' := 49) rfl rfl ?_
    refine g_i2d W4 d4_49 (pc' := 50) rfl rfl ?_
    refine g_ddiv W4 d4_50 (pc' := 51) rfl rfl (own_div (own_nz hd)) ?_
    exact g_dreturn W4 d4_51 ⟨rfl, H4⟩ (by decide) (by decide)
  · replace c1 := Classical.not_not.mp c1
    exact absurd c1 hd
set_option maxRecDepth 65536 in
set_option maxHeartbeats 40000000 in
theorem c_pa20 (l : Launch) (Z : State) (a0 : Array Value) (hw : ∀ d ∈ tables_1, d.before a0 Z = true) (n0 : Nat) (a ra : Addr) (t rel : Int32) (r1 r2 : Int32) (d : Int32) (hd : ¬ d < 1)  (h1 : d < r1) (h0 : Heap) (F : List HRow) (H00 : Hp Z n0 h0 ((a, ObC Z "com/example/nearterm/nearterm/evaluation/QueryEvaluation" [("com/example/nearterm/nearterm/evaluation/QueryEvaluation", "retrieved", "I", .int t), ("com/example/nearterm/nearterm/evaluation/QueryEvaluation", "relevant", "I", .int rel), ("com/example/nearterm/nearterm/evaluation/QueryEvaluation", "relevantRanks", "[I", .ref ra)]) :: (ra, ArC Z .int [.int r1, .int r2]) :: F)) :
    Con l Z n0 ⟨"com/example/nearterm/nearterm/evaluation/QueryEvaluation", "precisionAt", "(I)D"⟩ [] prog_31_method_6_code 3 (some .double) ({ frames := 0, cells := 0, slots := 0, locals := 0 } : Room) #[.ref a, .int d] h0 (fun v h => v = some (.double (FP.ddiv (FP.i2d (0 : Int32)) (FP.i2d d))) ∧ Hp Z n0 h ((a, ObC Z "com/example/nearterm/nearterm/evaluation/QueryEvaluation" [("com/example/nearterm/nearterm/evaluation/QueryEvaluation", "retrieved", "I", .int t), ("com/example/nearterm/nearterm/evaluation/QueryEvaluation", "relevant", "I", .int rel), ("com/example/nearterm/nearterm/evaluation/QueryEvaluation", "relevantRanks", "[I", .ref ra)]) :: (ra, ArC Z .int [.int r1, .int r2]) :: F)) := by
  refine con_of (plainFor_of_name pn_QueryEvaluation) ?_
  intro p e s m below meth c T0 W0 e0
  have H0 : Hp Z n0 T0.heap ((a, ObC Z "com/example/nearterm/nearterm/evaluation/QueryEvaluation" [("com/example/nearterm/nearterm/evaluation/QueryEvaluation", "retrieved", "I", .int t), ("com/example/nearterm/nearterm/evaluation/QueryEvaluation", "relevant", "I", .int rel), ("com/example/nearterm/nearterm/evaluation/QueryEvaluation", "relevantRanks", "[I", .ref ra)]) :: (ra, ArC Z .int [.int r1, .int r2]) :: F) := e0 ▸ H00
  refine g_cast (ef_4 m a d) ?_
  refine g_iloadN W0 d4_0 (pc' := 1) rfl rfl ?_
  refine g_iconst W0 d4_1 (pc' := 2) rfl (v := (1 : Int32)) (by decide) ?_
  refine g_icmp W0 d4_2 (pcy := 19) (by decide) (pc' := 5) rfl (fun (c1 : ¬ d < (1 : Int32)) => ?_) (fun (c1 : ¬ ¬ d < (1 : Int32)) => ?_)
  · refine g_iconst W0 d4_19 (pc' := 20) rfl (v := (0 : Int32)) (by decide) ?_
    refine g_istoreN W0 d4_20 (pc' := 21) rfl (ls' := #[.val (.ref a), .val (.int d), .val (.int (0 : Int32))]) rfl ?_
    refine g_iloadN W0 d4_21 (pc' := 22) rfl rfl ?_
    refine g_aloadN W0 d4_22 (pc' := 23) rfl rfl rfl ?_
    refine g_getf W0 (wd_21 hw) Via.refl H0 (i := 0) rfl (jx := 2) rfl d4_23 (pc' := 26) rfl ?_
    intro T2 W2 H2
    refine g_arrlen W2 H2 (i := 1) rfl (x := (2 : Int32)) rfl d4_26 (pc' := 27) rfl ?_
    refine g_icmp W2 d4_27 (pcy := 46) (by decide) (pc' := 30) rfl (fun (h : ¬ (0 : Int32) < (2 : Int32)) => absurd h (by decide)) (fun _ => ?_)
    refine g_aloadN W2 d4_30 (pc' := 31) rfl rfl rfl ?_
    refine g_getf W2 (wd_21 hw) Via.refl H2 (i := 0) rfl (jx := 2) rfl d4_31 (pc' := 34) rfl ?_
    intro T3 W3 H3
    refine g_iloadN W3 d4_34 (pc' := 35) rfl rfl ?_
    refine g_iaload W3 H3 (i := 1) rfl (jx := 0) (by decide) (v := .int r1) rfl d4_35 (pc' := 36) rfl ?_
    refine g_iloadN W3 d4_36 (pc' := 37) rfl rfl ?_
    refine g_icmp W3 d4_37 (pcy := 46) (by decide) (pc' := 40) rfl (fun _ => ?_) (fun h => absurd h1 h)
    refine g_iloadN W3 d4_46 (pc' := 47) rfl rfl ?_
    refine g_i2d W3 d4_47 (pc' := 48) rfl rfl ?_
    refine g_iloadN W3 d4_48 (pc' := 49) rfl rfl ?_
    refine g_i2d W3 d4_49 (pc' := 50) rfl rfl ?_
    refine g_ddiv W3 d4_50 (pc' := 51) rfl rfl (own_div (own_nz hd)) ?_
    exact g_dreturn W3 d4_51 ⟨rfl, H3⟩ (by decide) (by decide)
  · replace c1 := Classical.not_not.mp c1
    exact absurd c1 hd
set_option maxRecDepth 65536 in
set_option maxHeartbeats 40000000 in
theorem c_pa21 (l : Launch) (Z : State) (a0 : Array Value) (hw : ∀ d ∈ tables_1, d.before a0 Z = true) (n0 : Nat) (a ra : Addr) (t rel : Int32) (r1 r2 : Int32) (d : Int32) (hd : ¬ d < 1) (h1 : ¬ d < r1) (h2 : d < r2) (h0 : Heap) (F : List HRow) (H00 : Hp Z n0 h0 ((a, ObC Z "com/example/nearterm/nearterm/evaluation/QueryEvaluation" [("com/example/nearterm/nearterm/evaluation/QueryEvaluation", "retrieved", "I", .int t), ("com/example/nearterm/nearterm/evaluation/QueryEvaluation", "relevant", "I", .int rel), ("com/example/nearterm/nearterm/evaluation/QueryEvaluation", "relevantRanks", "[I", .ref ra)]) :: (ra, ArC Z .int [.int r1, .int r2]) :: F)) :
    Con l Z n0 ⟨"com/example/nearterm/nearterm/evaluation/QueryEvaluation", "precisionAt", "(I)D"⟩ [] prog_31_method_6_code 3 (some .double) ({ frames := 0, cells := 0, slots := 0, locals := 0 } : Room) #[.ref a, .int d] h0 (fun v h => v = some (.double (FP.ddiv (FP.i2d (1 : Int32)) (FP.i2d d))) ∧ Hp Z n0 h ((a, ObC Z "com/example/nearterm/nearterm/evaluation/QueryEvaluation" [("com/example/nearterm/nearterm/evaluation/QueryEvaluation", "retrieved", "I", .int t), ("com/example/nearterm/nearterm/evaluation/QueryEvaluation", "relevant", "I", .int rel), ("com/example/nearterm/nearterm/evaluation/QueryEvaluation", "relevantRanks", "[I", .ref ra)]) :: (ra, ArC Z .int [.int r1, .int r2]) :: F)) := by
  refine con_of (plainFor_of_name pn_QueryEvaluation) ?_
  intro p e s m below meth c T0 W0 e0
  have H0 : Hp Z n0 T0.heap ((a, ObC Z "com/example/nearterm/nearterm/evaluation/QueryEvaluation" [("com/example/nearterm/nearterm/evaluation/QueryEvaluation", "retrieved", "I", .int t), ("com/example/nearterm/nearterm/evaluation/QueryEvaluation", "relevant", "I", .int rel), ("com/example/nearterm/nearterm/evaluation/QueryEvaluation", "relevantRanks", "[I", .ref ra)]) :: (ra, ArC Z .int [.int r1, .int r2]) :: F) := e0 ▸ H00
  refine g_cast (ef_4 m a d) ?_
  refine g_iloadN W0 d4_0 (pc' := 1) rfl rfl ?_
  refine g_iconst W0 d4_1 (pc' := 2) rfl (v := (1 : Int32)) (by decide) ?_
  refine g_icmp W0 d4_2 (pcy := 19) (by decide) (pc' := 5) rfl (fun (c1 : ¬ d < (1 : Int32)) => ?_) (fun (c1 : ¬ ¬ d < (1 : Int32)) => ?_)
  · refine g_iconst W0 d4_19 (pc' := 20) rfl (v := (0 : Int32)) (by decide) ?_
    refine g_istoreN W0 d4_20 (pc' := 21) rfl (ls' := #[.val (.ref a), .val (.int d), .val (.int (0 : Int32))]) rfl ?_
    refine g_iloadN W0 d4_21 (pc' := 22) rfl rfl ?_
    refine g_aloadN W0 d4_22 (pc' := 23) rfl rfl rfl ?_
    refine g_getf W0 (wd_21 hw) Via.refl H0 (i := 0) rfl (jx := 2) rfl d4_23 (pc' := 26) rfl ?_
    intro T2 W2 H2
    refine g_arrlen W2 H2 (i := 1) rfl (x := (2 : Int32)) rfl d4_26 (pc' := 27) rfl ?_
    refine g_icmp W2 d4_27 (pcy := 46) (by decide) (pc' := 30) rfl (fun (h : ¬ (0 : Int32) < (2 : Int32)) => absurd h (by decide)) (fun _ => ?_)
    refine g_aloadN W2 d4_30 (pc' := 31) rfl rfl rfl ?_
    refine g_getf W2 (wd_21 hw) Via.refl H2 (i := 0) rfl (jx := 2) rfl d4_31 (pc' := 34) rfl ?_
    intro T3 W3 H3
    refine g_iloadN W3 d4_34 (pc' := 35) rfl rfl ?_
    refine g_iaload W3 H3 (i := 1) rfl (jx := 0) (by decide) (v := .int r1) rfl d4_35 (pc' := 36) rfl ?_
    refine g_iloadN W3 d4_36 (pc' := 37) rfl rfl ?_
    refine g_icmp W3 d4_37 (pcy := 46) (by decide) (pc' := 40) rfl (fun h => absurd h h1) (fun _ => ?_)
    refine g_iinc W3 d4_40 (pc' := 43) rfl rfl (v := (1 : Int32)) (by decide) (ls' := #[.val (.ref a), .val (.int d), .val (.int (1 : Int32))]) rfl ?_
    refine g_goto W3 d4_43 (pc' := 21) (by decide) ?_
    refine g_iloadN W3 d4_21 (pc' := 22) rfl rfl ?_
    refine g_aloadN W3 d4_22 (pc' := 23) rfl rfl rfl ?_
    refine g_getf W3 (wd_21 hw) Via.refl H3 (i := 0) rfl (jx := 2) rfl d4_23 (pc' := 26) rfl ?_
    intro T4 W4 H4
    refine g_arrlen W4 H4 (i := 1) rfl (x := (2 : Int32)) rfl d4_26 (pc' := 27) rfl ?_
    refine g_icmp W4 d4_27 (pcy := 46) (by decide) (pc' := 30) rfl (fun (h : ¬ (1 : Int32) < (2 : Int32)) => absurd h (by decide)) (fun _ => ?_)
    refine g_aloadN W4 d4_30 (pc' := 31) rfl rfl rfl ?_
    refine g_getf W4 (wd_21 hw) Via.refl H4 (i := 0) rfl (jx := 2) rfl d4_31 (pc' := 34) rfl ?_
    intro T5 W5 H5
    refine g_iloadN W5 d4_34 (pc' := 35) rfl rfl ?_
    refine g_iaload W5 H5 (i := 1) rfl (jx := 1) (by decide) (v := .int r2) rfl d4_35 (pc' := 36) rfl ?_
    refine g_iloadN W5 d4_36 (pc' := 37) rfl rfl ?_
    refine g_icmp W5 d4_37 (pcy := 46) (by decide) (pc' := 40) rfl (fun _ => ?_) (fun h => absurd h2 h)
    refine g_iloadN W5 d4_46 (pc' := 47) rfl rfl ?_
    refine g_i2d W5 d4_47 (pc' := 48) rfl rfl ?_
    refine g_iloadN W5 d4_48 (pc' := 49) rfl rfl ?_
    refine g_i2d W5 d4_49 (pc' := 50) rfl rfl ?_
    refine g_ddiv W5 d4_50 (pc' := 51) rfl rfl (own_div (own_nz hd)) ?_
    exact g_dreturn W5 d4_51 ⟨rfl, H5⟩ (by decide) (by decide)
  · replace c1 := Classical.not_not.mp c1
    exact absurd c1 hd
set_option maxRecDepth 65536 in
set_option maxHeartbeats 40000000 in
theorem c_pa22 (l : Launch) (Z : State) (a0 : Array Value) (hw : ∀ d ∈ tables_1, d.before a0 Z = true) (n0 : Nat) (a ra : Addr) (t rel : Int32) (r1 r2 : Int32) (d : Int32) (hd : ¬ d < 1) (h1 : ¬ d < r1) (h2 : ¬ d < r2) (h0 : Heap) (F : List HRow) (H00 : Hp Z n0 h0 ((a, ObC Z "com/example/nearterm/nearterm/evaluation/QueryEvaluation" [("com/example/nearterm/nearterm/evaluation/QueryEvaluation", "retrieved", "I", .int t), ("com/example/nearterm/nearterm/evaluation/QueryEvaluation", "relevant", "I", .int rel), ("com/example/nearterm/nearterm/evaluation/QueryEvaluation", "relevantRanks", "[I", .ref ra)]) :: (ra, ArC Z .int [.int r1, .int r2]) :: F)) :
    Con l Z n0 ⟨"com/example/nearterm/nearterm/evaluation/QueryEvaluation", "precisionAt", "(I)D"⟩ [] prog_31_method_6_code 3 (some .double) ({ frames := 0, cells := 0, slots := 0, locals := 0 } : Room) #[.ref a, .int d] h0 (fun v h => v = some (.double (FP.ddiv (FP.i2d (2 : Int32)) (FP.i2d d))) ∧ Hp Z n0 h ((a, ObC Z "com/example/nearterm/nearterm/evaluation/QueryEvaluation" [("com/example/nearterm/nearterm/evaluation/QueryEvaluation", "retrieved", "I", .int t), ("com/example/nearterm/nearterm/evaluation/QueryEvaluation", "relevant", "I", .int rel), ("com/example/nearterm/nearterm/evaluation/QueryEvaluation", "relevantRanks", "[I", .ref ra)]) :: (ra, ArC Z .int [.int r1, .int r2]) :: F)) := by
  refine con_of (plainFor_of_name pn_QueryEvaluation) ?_
  intro p e s m below meth c T0 W0 e0
  have H0 : Hp Z n0 T0.heap ((a, ObC Z "com/example/nearterm/nearterm/evaluation/QueryEvaluation" [("com/example/nearterm/nearterm/evaluation/QueryEvaluation", "retrieved", "I", .int t), ("com/example/nearterm/nearterm/evaluation/QueryEvaluation", "relevant", "I", .int rel), ("com/example/nearterm/nearterm/evaluation/QueryEvaluation", "relevantRanks", "[I", .ref ra)]) :: (ra, ArC Z .int [.int r1, .int r2]) :: F) := e0 ▸ H00
  refine g_cast (ef_4 m a d) ?_
  refine g_iloadN W0 d4_0 (pc' := 1) rfl rfl ?_
  refine g_iconst W0 d4_1 (pc' := 2) rfl (v := (1 : Int32)) (by decide) ?_
  refine g_icmp W0 d4_2 (pcy := 19) (by decide) (pc' := 5) rfl (fun (c1 : ¬ d < (1 : Int32)) => ?_) (fun (c1 : ¬ ¬ d < (1 : Int32)) => ?_)
  · refine g_iconst W0 d4_19 (pc' := 20) rfl (v := (0 : Int32)) (by decide) ?_
    refine g_istoreN W0 d4_20 (pc' := 21) rfl (ls' := #[.val (.ref a), .val (.int d), .val (.int (0 : Int32))]) rfl ?_
    refine g_iloadN W0 d4_21 (pc' := 22) rfl rfl ?_
    refine g_aloadN W0 d4_22 (pc' := 23) rfl rfl rfl ?_
    refine g_getf W0 (wd_21 hw) Via.refl H0 (i := 0) rfl (jx := 2) rfl d4_23 (pc' := 26) rfl ?_
    intro T2 W2 H2
    refine g_arrlen W2 H2 (i := 1) rfl (x := (2 : Int32)) rfl d4_26 (pc' := 27) rfl ?_
    refine g_icmp W2 d4_27 (pcy := 46) (by decide) (pc' := 30) rfl (fun (h : ¬ (0 : Int32) < (2 : Int32)) => absurd h (by decide)) (fun _ => ?_)
    refine g_aloadN W2 d4_30 (pc' := 31) rfl rfl rfl ?_
    refine g_getf W2 (wd_21 hw) Via.refl H2 (i := 0) rfl (jx := 2) rfl d4_31 (pc' := 34) rfl ?_
    intro T3 W3 H3
    refine g_iloadN W3 d4_34 (pc' := 35) rfl rfl ?_
    refine g_iaload W3 H3 (i := 1) rfl (jx := 0) (by decide) (v := .int r1) rfl d4_35 (pc' := 36) rfl ?_
    refine g_iloadN W3 d4_36 (pc' := 37) rfl rfl ?_
    refine g_icmp W3 d4_37 (pcy := 46) (by decide) (pc' := 40) rfl (fun h => absurd h h1) (fun _ => ?_)
    refine g_iinc W3 d4_40 (pc' := 43) rfl rfl (v := (1 : Int32)) (by decide) (ls' := #[.val (.ref a), .val (.int d), .val (.int (1 : Int32))]) rfl ?_
    refine g_goto W3 d4_43 (pc' := 21) (by decide) ?_
    refine g_iloadN W3 d4_21 (pc' := 22) rfl rfl ?_
    refine g_aloadN W3 d4_22 (pc' := 23) rfl rfl rfl ?_
    refine g_getf W3 (wd_21 hw) Via.refl H3 (i := 0) rfl (jx := 2) rfl d4_23 (pc' := 26) rfl ?_
    intro T4 W4 H4
    refine g_arrlen W4 H4 (i := 1) rfl (x := (2 : Int32)) rfl d4_26 (pc' := 27) rfl ?_
    refine g_icmp W4 d4_27 (pcy := 46) (by decide) (pc' := 30) rfl (fun (h : ¬ (1 : Int32) < (2 : Int32)) => absurd h (by decide)) (fun _ => ?_)
    refine g_aloadN W4 d4_30 (pc' := 31) rfl rfl rfl ?_
    refine g_getf W4 (wd_21 hw) Via.refl H4 (i := 0) rfl (jx := 2) rfl d4_31 (pc' := 34) rfl ?_
    intro T5 W5 H5
    refine g_iloadN W5 d4_34 (pc' := 35) rfl rfl ?_
    refine g_iaload W5 H5 (i := 1) rfl (jx := 1) (by decide) (v := .int r2) rfl d4_35 (pc' := 36) rfl ?_
    refine g_iloadN W5 d4_36 (pc' := 37) rfl rfl ?_
    refine g_icmp W5 d4_37 (pcy := 46) (by decide) (pc' := 40) rfl (fun h => absurd h h2) (fun _ => ?_)
    refine g_iinc W5 d4_40 (pc' := 43) rfl rfl (v := (2 : Int32)) (by decide) (ls' := #[.val (.ref a), .val (.int d), .val (.int (2 : Int32))]) rfl ?_
    refine g_goto W5 d4_43 (pc' := 21) (by decide) ?_
    refine g_iloadN W5 d4_21 (pc' := 22) rfl rfl ?_
    refine g_aloadN W5 d4_22 (pc' := 23) rfl rfl rfl ?_
    refine g_getf W5 (wd_21 hw) Via.refl H5 (i := 0) rfl (jx := 2) rfl d4_23 (pc' := 26) rfl ?_
    intro T6 W6 H6
    refine g_arrlen W6 H6 (i := 1) rfl (x := (2 : Int32)) rfl d4_26 (pc' := 27) rfl ?_
    refine g_icmp W6 d4_27 (pcy := 46) (by decide) (pc' := 30) rfl (fun _ => ?_) (fun (h : ¬ ¬ (2 : Int32) < (2 : Int32)) => absurd h (by decide))
    refine g_iloadN W6 d4_46 (pc' := 47) rfl rfl ?_
    refine g_i2d W6 d4_47 (pc' := 48) rfl rfl ?_
    refine g_iloadN W6 d4_48 (pc' := 49) rfl rfl ?_
    refine g_i2d W6 d4_49 (pc' := 50) rfl rfl ?_
    refine g_ddiv W6 d4_50 (pc' := 51) rfl rfl (own_div (own_nz hd)) ?_
    exact g_dreturn W6 d4_51 ⟨rfl, H6⟩ (by decide) (by decide)
  · replace c1 := Classical.not_not.mp c1
    exact absurd c1 hd
set_option maxRecDepth 65536 in
set_option maxHeartbeats 40000000 in
theorem c_pa30 (l : Launch) (Z : State) (a0 : Array Value) (hw : ∀ d ∈ tables_1, d.before a0 Z = true) (n0 : Nat) (a ra : Addr) (t rel : Int32) (r1 r2 r3 : Int32) (d : Int32) (hd : ¬ d < 1)  (h1 : d < r1) (h0 : Heap) (F : List HRow) (H00 : Hp Z n0 h0 ((a, ObC Z "com/example/nearterm/nearterm/evaluation/QueryEvaluation" [("com/example/nearterm/nearterm/evaluation/QueryEvaluation", "retrieved", "I", .int t), ("com/example/nearterm/nearterm/evaluation/QueryEvaluation", "relevant", "I", .int rel), ("com/example/nearterm/nearterm/evaluation/QueryEvaluation", "relevantRanks", "[I", .ref ra)]) :: (ra, ArC Z .int [.int r1, .int r2, .int r3]) :: F)) :
    Con l Z n0 ⟨"com/example/nearterm/nearterm/evaluation/QueryEvaluation", "precisionAt", "(I)D"⟩ [] prog_31_method_6_code 3 (some .double) ({ frames := 0, cells := 0, slots := 0, locals := 0 } : Room) #[.ref a, .int d] h0 (fun v h => v = some (.double (FP.ddiv (FP.i2d (0 : Int32)) (FP.i2d d))) ∧ Hp Z n0 h ((a, ObC Z "com/example/nearterm/nearterm/evaluation/QueryEvaluation" [("com/example/nearterm/nearterm/evaluation/QueryEvaluation", "retrieved", "I", .int t), ("com/example/nearterm/nearterm/evaluation/QueryEvaluation", "relevant", "I", .int rel), ("com/example/nearterm/nearterm/evaluation/QueryEvaluation", "relevantRanks", "[I", .ref ra)]) :: (ra, ArC Z .int [.int r1, .int r2, .int r3]) :: F)) := by
  refine con_of (plainFor_of_name pn_QueryEvaluation) ?_
  intro p e s m below meth c T0 W0 e0
  have H0 : Hp Z n0 T0.heap ((a, ObC Z "com/example/nearterm/nearterm/evaluation/QueryEvaluation" [("com/example/nearterm/nearterm/evaluation/QueryEvaluation", "retrieved", "I", .int t), ("com/example/nearterm/nearterm/evaluation/QueryEvaluation", "relevant", "I", .int rel), ("com/example/nearterm/nearterm/evaluation/QueryEvaluation", "relevantRanks", "[I", .ref ra)]) :: (ra, ArC Z .int [.int r1, .int r2, .int r3]) :: F) := e0 ▸ H00
  refine g_cast (ef_4 m a d) ?_
  refine g_iloadN W0 d4_0 (pc' := 1) rfl rfl ?_
  refine g_iconst W0 d4_1 (pc' := 2) rfl (v := (1 : Int32)) (by decide) ?_
  refine g_icmp W0 d4_2 (pcy := 19) (by decide) (pc' := 5) rfl (fun (c1 : ¬ d < (1 : Int32)) => ?_) (fun (c1 : ¬ ¬ d < (1 : Int32)) => ?_)
  · refine g_iconst W0 d4_19 (pc' := 20) rfl (v := (0 : Int32)) (by decide) ?_
    refine g_istoreN W0 d4_20 (pc' := 21) rfl (ls' := #[.val (.ref a), .val (.int d), .val (.int (0 : Int32))]) rfl ?_
    refine g_iloadN W0 d4_21 (pc' := 22) rfl rfl ?_
    refine g_aloadN W0 d4_22 (pc' := 23) rfl rfl rfl ?_
    refine g_getf W0 (wd_21 hw) Via.refl H0 (i := 0) rfl (jx := 2) rfl d4_23 (pc' := 26) rfl ?_
    intro T2 W2 H2
    refine g_arrlen W2 H2 (i := 1) rfl (x := (3 : Int32)) rfl d4_26 (pc' := 27) rfl ?_
    refine g_icmp W2 d4_27 (pcy := 46) (by decide) (pc' := 30) rfl (fun (h : ¬ (0 : Int32) < (3 : Int32)) => absurd h (by decide)) (fun _ => ?_)
    refine g_aloadN W2 d4_30 (pc' := 31) rfl rfl rfl ?_
    refine g_getf W2 (wd_21 hw) Via.refl H2 (i := 0) rfl (jx := 2) rfl d4_31 (pc' := 34) rfl ?_
    intro T3 W3 H3
    refine g_iloadN W3 d4_34 (pc' := 35) rfl rfl ?_
    refine g_iaload W3 H3 (i := 1) rfl (jx := 0) (by decide) (v := .int r1) rfl d4_35 (pc' := 36) rfl ?_
    refine g_iloadN W3 d4_36 (pc' := 37) rfl rfl ?_
    refine g_icmp W3 d4_37 (pcy := 46) (by decide) (pc' := 40) rfl (fun _ => ?_) (fun h => absurd h1 h)
    refine g_iloadN W3 d4_46 (pc' := 47) rfl rfl ?_
    refine g_i2d W3 d4_47 (pc' := 48) rfl rfl ?_
    refine g_iloadN W3 d4_48 (pc' := 49) rfl rfl ?_
    refine g_i2d W3 d4_49 (pc' := 50) rfl rfl ?_
    refine g_ddiv W3 d4_50 (pc' := 51) rfl rfl (own_div (own_nz hd)) ?_
    exact g_dreturn W3 d4_51 ⟨rfl, H3⟩ (by decide) (by decide)
  · replace c1 := Classical.not_not.mp c1
    exact absurd c1 hd
set_option maxRecDepth 65536 in
set_option maxHeartbeats 40000000 in
theorem c_pa31 (l : Launch) (Z : State) (a0 : Array Value) (hw : ∀ d ∈ tables_1, d.before a0 Z = true) (n0 : Nat) (a ra : Addr) (t rel : Int32) (r1 r2 r3 : Int32) (d : Int32) (hd : ¬ d < 1) (h1 : ¬ d < r1) (h2 : d < r2) (h0 : Heap) (F : List HRow) (H00 : Hp Z n0 h0 ((a, ObC Z "com/example/nearterm/nearterm/evaluation/QueryEvaluation" [("com/example/nearterm/nearterm/evaluation/QueryEvaluation", "retrieved", "I", .int t), ("com/example/nearterm/nearterm/evaluation/QueryEvaluation", "relevant", "I", .int rel), ("com/example/nearterm/nearterm/evaluation/QueryEvaluation", "relevantRanks", "[I", .ref ra)]) :: (ra, ArC Z .int [.int r1, .int r2, .int r3]) :: F)) :
    Con l Z n0 ⟨"com/example/nearterm/nearterm/evaluation/QueryEvaluation", "precisionAt", "(I)D"⟩ [] prog_31_method_6_code 3 (some .double) ({ frames := 0, cells := 0, slots := 0, locals := 0 } : Room) #[.ref a, .int d] h0 (fun v h => v = some (.double (FP.ddiv (FP.i2d (1 : Int32)) (FP.i2d d))) ∧ Hp Z n0 h ((a, ObC Z "com/example/nearterm/nearterm/evaluation/QueryEvaluation" [("com/example/nearterm/nearterm/evaluation/QueryEvaluation", "retrieved", "I", .int t), ("com/example/nearterm/nearterm/evaluation/QueryEvaluation", "relevant", "I", .int rel), ("com/example/nearterm/nearterm/evaluation/QueryEvaluation", "relevantRanks", "[I", .ref ra)]) :: (ra, ArC Z .int [.int r1, .int r2, .int r3]) :: F)) := by
  refine con_of (plainFor_of_name pn_QueryEvaluation) ?_
  intro p e s m below meth c T0 W0 e0
  have H0 : Hp Z n0 T0.heap ((a, ObC Z "com/example/nearterm/nearterm/evaluation/QueryEvaluation" [("com/example/nearterm/nearterm/evaluation/QueryEvaluation", "retrieved", "I", .int t), ("com/example/nearterm/nearterm/evaluation/QueryEvaluation", "relevant", "I", .int rel), ("com/example/nearterm/nearterm/evaluation/QueryEvaluation", "relevantRanks", "[I", .ref ra)]) :: (ra, ArC Z .int [.int r1, .int r2, .int r3]) :: F) := e0 ▸ H00
  refine g_cast (ef_4 m a d) ?_
  refine g_iloadN W0 d4_0 (pc' := 1) rfl rfl ?_
  refine g_iconst W0 d4_1 (pc' := 2) rfl (v := (1 : Int32)) (by decide) ?_
  refine g_icmp W0 d4_2 (pcy := 19) (by decide) (pc' := 5) rfl (fun (c1 : ¬ d < (1 : Int32)) => ?_) (fun (c1 : ¬ ¬ d < (1 : Int32)) => ?_)
  · refine g_iconst W0 d4_19 (pc' := 20) rfl (v := (0 : Int32)) (by decide) ?_
    refine g_istoreN W0 d4_20 (pc' := 21) rfl (ls' := #[.val (.ref a), .val (.int d), .val (.int (0 : Int32))]) rfl ?_
    refine g_iloadN W0 d4_21 (pc' := 22) rfl rfl ?_
    refine g_aloadN W0 d4_22 (pc' := 23) rfl rfl rfl ?_
    refine g_getf W0 (wd_21 hw) Via.refl H0 (i := 0) rfl (jx := 2) rfl d4_23 (pc' := 26) rfl ?_
    intro T2 W2 H2
    refine g_arrlen W2 H2 (i := 1) rfl (x := (3 : Int32)) rfl d4_26 (pc' := 27) rfl ?_
    refine g_icmp W2 d4_27 (pcy := 46) (by decide) (pc' := 30) rfl (fun (h : ¬ (0 : Int32) < (3 : Int32)) => absurd h (by decide)) (fun _ => ?_)
    refine g_aloadN W2 d4_30 (pc' := 31) rfl rfl rfl ?_
    refine g_getf W2 (wd_21 hw) Via.refl H2 (i := 0) rfl (jx := 2) rfl d4_31 (pc' := 34) rfl ?_
    intro T3 W3 H3
    refine g_iloadN W3 d4_34 (pc' := 35) rfl rfl ?_
    refine g_iaload W3 H3 (i := 1) rfl (jx := 0) (by decide) (v := .int r1) rfl d4_35 (pc' := 36) rfl ?_
    refine g_iloadN W3 d4_36 (pc' := 37) rfl rfl ?_
    refine g_icmp W3 d4_37 (pcy := 46) (by decide) (pc' := 40) rfl (fun h => absurd h h1) (fun _ => ?_)
    refine g_iinc W3 d4_40 (pc' := 43) rfl rfl (v := (1 : Int32)) (by decide) (ls' := #[.val (.ref a), .val (.int d), .val (.int (1 : Int32))]) rfl ?_
    refine g_goto W3 d4_43 (pc' := 21) (by decide) ?_
    refine g_iloadN W3 d4_21 (pc' := 22) rfl rfl ?_
    refine g_aloadN W3 d4_22 (pc' := 23) rfl rfl rfl ?_
    refine g_getf W3 (wd_21 hw) Via.refl H3 (i := 0) rfl (jx := 2) rfl d4_23 (pc' := 26) rfl ?_
    intro T4 W4 H4
    refine g_arrlen W4 H4 (i := 1) rfl (x := (3 : Int32)) rfl d4_26 (pc' := 27) rfl ?_
    refine g_icmp W4 d4_27 (pcy := 46) (by decide) (pc' := 30) rfl (fun (h : ¬ (1 : Int32) < (3 : Int32)) => absurd h (by decide)) (fun _ => ?_)
    refine g_aloadN W4 d4_30 (pc' := 31) rfl rfl rfl ?_
    refine g_getf W4 (wd_21 hw) Via.refl H4 (i := 0) rfl (jx := 2) rfl d4_31 (pc' := 34) rfl ?_
    intro T5 W5 H5
    refine g_iloadN W5 d4_34 (pc' := 35) rfl rfl ?_
    refine g_iaload W5 H5 (i := 1) rfl (jx := 1) (by decide) (v := .int r2) rfl d4_35 (pc' := 36) rfl ?_
    refine g_iloadN W5 d4_36 (pc' := 37) rfl rfl ?_
    refine g_icmp W5 d4_37 (pcy := 46) (by decide) (pc' := 40) rfl (fun _ => ?_) (fun h => absurd h2 h)
    refine g_iloadN W5 d4_46 (pc' := 47) rfl rfl ?_
    refine g_i2d W5 d4_47 (pc' := 48) rfl rfl ?_
    refine g_iloadN W5 d4_48 (pc' := 49) rfl rfl ?_
    refine g_i2d W5 d4_49 (pc' := 50) rfl rfl ?_
    refine g_ddiv W5 d4_50 (pc' := 51) rfl rfl (own_div (own_nz hd)) ?_
    exact g_dreturn W5 d4_51 ⟨rfl, H5⟩ (by decide) (by decide)
  · replace c1 := Classical.not_not.mp c1
    exact absurd c1 hd
set_option maxRecDepth 65536 in
set_option maxHeartbeats 40000000 in
theorem c_pa32 (l : Launch) (Z : State) (a0 : Array Value) (hw : ∀ d ∈ tables_1, d.before a0 Z = true) (n0 : Nat) (a ra : Addr) (t rel : Int32) (r1 r2 r3 : Int32) (d : Int32) (hd : ¬ d < 1) (h1 : ¬ d < r1) (h2 : ¬ d < r2) (h3 : d < r3) (h0 : Heap) (F : List HRow) (H00 : Hp Z n0 h0 ((a, ObC Z "com/example/nearterm/nearterm/evaluation/QueryEvaluation" [("com/example/nearterm/nearterm/evaluation/QueryEvaluation", "retrieved", "I", .int t), ("com/example/nearterm/nearterm/evaluation/QueryEvaluation", "relevant", "I", .int rel), ("com/example/nearterm/nearterm/evaluation/QueryEvaluation", "relevantRanks", "[I", .ref ra)]) :: (ra, ArC Z .int [.int r1, .int r2, .int r3]) :: F)) :
    Con l Z n0 ⟨"com/example/nearterm/nearterm/evaluation/QueryEvaluation", "precisionAt", "(I)D"⟩ [] prog_31_method_6_code 3 (some .double) ({ frames := 0, cells := 0, slots := 0, locals := 0 } : Room) #[.ref a, .int d] h0 (fun v h => v = some (.double (FP.ddiv (FP.i2d (2 : Int32)) (FP.i2d d))) ∧ Hp Z n0 h ((a, ObC Z "com/example/nearterm/nearterm/evaluation/QueryEvaluation" [("com/example/nearterm/nearterm/evaluation/QueryEvaluation", "retrieved", "I", .int t), ("com/example/nearterm/nearterm/evaluation/QueryEvaluation", "relevant", "I", .int rel), ("com/example/nearterm/nearterm/evaluation/QueryEvaluation", "relevantRanks", "[I", .ref ra)]) :: (ra, ArC Z .int [.int r1, .int r2, .int r3]) :: F)) := by
  refine con_of (plainFor_of_name pn_QueryEvaluation) ?_
  intro p e s m below meth c T0 W0 e0
  have H0 : Hp Z n0 T0.heap ((a, ObC Z "com/example/nearterm/nearterm/evaluation/QueryEvaluation" [("com/example/nearterm/nearterm/evaluation/QueryEvaluation", "retrieved", "I", .int t), ("com/example/nearterm/nearterm/evaluation/QueryEvaluation", "relevant", "I", .int rel), ("com/example/nearterm/nearterm/evaluation/QueryEvaluation", "relevantRanks", "[I", .ref ra)]) :: (ra, ArC Z .int [.int r1, .int r2, .int r3]) :: F) := e0 ▸ H00
  refine g_cast (ef_4 m a d) ?_
  refine g_iloadN W0 d4_0 (pc' := 1) rfl rfl ?_
  refine g_iconst W0 d4_1 (pc' := 2) rfl (v := (1 : Int32)) (by decide) ?_
  refine g_icmp W0 d4_2 (pcy := 19) (by decide) (pc' := 5) rfl (fun (c1 : ¬ d < (1 : Int32)) => ?_) (fun (c1 : ¬ ¬ d < (1 : Int32)) => ?_)
  · refine g_iconst W0 d4_19 (pc' := 20) rfl (v := (0 : Int32)) (by decide) ?_
    refine g_istoreN W0 d4_20 (pc' := 21) rfl (ls' := #[.val (.ref a), .val (.int d), .val (.int (0 : Int32))]) rfl ?_
    refine g_iloadN W0 d4_21 (pc' := 22) rfl rfl ?_
    refine g_aloadN W0 d4_22 (pc' := 23) rfl rfl rfl ?_
    refine g_getf W0 (wd_21 hw) Via.refl H0 (i := 0) rfl (jx := 2) rfl d4_23 (pc' := 26) rfl ?_
    intro T2 W2 H2
    refine g_arrlen W2 H2 (i := 1) rfl (x := (3 : Int32)) rfl d4_26 (pc' := 27) rfl ?_
    refine g_icmp W2 d4_27 (pcy := 46) (by decide) (pc' := 30) rfl (fun (h : ¬ (0 : Int32) < (3 : Int32)) => absurd h (by decide)) (fun _ => ?_)
    refine g_aloadN W2 d4_30 (pc' := 31) rfl rfl rfl ?_
    refine g_getf W2 (wd_21 hw) Via.refl H2 (i := 0) rfl (jx := 2) rfl d4_31 (pc' := 34) rfl ?_
    intro T3 W3 H3
    refine g_iloadN W3 d4_34 (pc' := 35) rfl rfl ?_
    refine g_iaload W3 H3 (i := 1) rfl (jx := 0) (by decide) (v := .int r1) rfl d4_35 (pc' := 36) rfl ?_
    refine g_iloadN W3 d4_36 (pc' := 37) rfl rfl ?_
    refine g_icmp W3 d4_37 (pcy := 46) (by decide) (pc' := 40) rfl (fun h => absurd h h1) (fun _ => ?_)
    refine g_iinc W3 d4_40 (pc' := 43) rfl rfl (v := (1 : Int32)) (by decide) (ls' := #[.val (.ref a), .val (.int d), .val (.int (1 : Int32))]) rfl ?_
    refine g_goto W3 d4_43 (pc' := 21) (by decide) ?_
    refine g_iloadN W3 d4_21 (pc' := 22) rfl rfl ?_
    refine g_aloadN W3 d4_22 (pc' := 23) rfl rfl rfl ?_
    refine g_getf W3 (wd_21 hw) Via.refl H3 (i := 0) rfl (jx := 2) rfl d4_23 (pc' := 26) rfl ?_
    intro T4 W4 H4
    refine g_arrlen W4 H4 (i := 1) rfl (x := (3 : Int32)) rfl d4_26 (pc' := 27) rfl ?_
    refine g_icmp W4 d4_27 (pcy := 46) (by decide) (pc' := 30) rfl (fun (h : ¬ (1 : Int32) < (3 : Int32)) => absurd h (by decide)) (fun _ => ?_)
    refine g_aloadN W4 d4_30 (pc' := 31) rfl rfl rfl ?_
    refine g_getf W4 (wd_21 hw) Via.refl H4 (i := 0) rfl (jx := 2) rfl d4_31 (pc' := 34) rfl ?_
    intro T5 W5 H5
    refine g_iloadN W5 d4_34 (pc' := 35) rfl rfl ?_
    refine g_iaload W5 H5 (i := 1) rfl (jx := 1) (by decide) (v := .int r2) rfl d4_35 (pc' := 36) rfl ?_
    refine g_iloadN W5 d4_36 (pc' := 37) rfl rfl ?_
    refine g_icmp W5 d4_37 (pcy := 46) (by decide) (pc' := 40) rfl (fun h => absurd h h2) (fun _ => ?_)
    refine g_iinc W5 d4_40 (pc' := 43) rfl rfl (v := (2 : Int32)) (by decide) (ls' := #[.val (.ref a), .val (.int d), .val (.int (2 : Int32))]) rfl ?_
    refine g_goto W5 d4_43 (pc' := 21) (by decide) ?_
    refine g_iloadN W5 d4_21 (pc' := 22) rfl rfl ?_
    refine g_aloadN W5 d4_22 (pc' := 23) rfl rfl rfl ?_
    refine g_getf W5 (wd_21 hw) Via.refl H5 (i := 0) rfl (jx := 2) rfl d4_23 (pc' := 26) rfl ?_
    intro T6 W6 H6
    refine g_arrlen W6 H6 (i := 1) rfl (x := (3 : Int32)) rfl d4_26 (pc' := 27) rfl ?_
    refine g_icmp W6 d4_27 (pcy := 46) (by decide) (pc' := 30) rfl (fun (h : ¬ (2 : Int32) < (3 : Int32)) => absurd h (by decide)) (fun _ => ?_)
    refine g_aloadN W6 d4_30 (pc' := 31) rfl rfl rfl ?_
    refine g_getf W6 (wd_21 hw) Via.refl H6 (i := 0) rfl (jx := 2) rfl d4_31 (pc' := 34) rfl ?_
    intro T7 W7 H7
    refine g_iloadN W7 d4_34 (pc' := 35) rfl rfl ?_
    refine g_iaload W7 H7 (i := 1) rfl (jx := 2) (by decide) (v := .int r3) rfl d4_35 (pc' := 36) rfl ?_
    refine g_iloadN W7 d4_36 (pc' := 37) rfl rfl ?_
    refine g_icmp W7 d4_37 (pcy := 46) (by decide) (pc' := 40) rfl (fun _ => ?_) (fun h => absurd h3 h)
    refine g_iloadN W7 d4_46 (pc' := 47) rfl rfl ?_
    refine g_i2d W7 d4_47 (pc' := 48) rfl rfl ?_
    refine g_iloadN W7 d4_48 (pc' := 49) rfl rfl ?_
    refine g_i2d W7 d4_49 (pc' := 50) rfl rfl ?_
    refine g_ddiv W7 d4_50 (pc' := 51) rfl rfl (own_div (own_nz hd)) ?_
    exact g_dreturn W7 d4_51 ⟨rfl, H7⟩ (by decide) (by decide)
  · replace c1 := Classical.not_not.mp c1
    exact absurd c1 hd
set_option maxRecDepth 65536 in
set_option maxHeartbeats 40000000 in
theorem c_pa33 (l : Launch) (Z : State) (a0 : Array Value) (hw : ∀ d ∈ tables_1, d.before a0 Z = true) (n0 : Nat) (a ra : Addr) (t rel : Int32) (r1 r2 r3 : Int32) (d : Int32) (hd : ¬ d < 1) (h1 : ¬ d < r1) (h2 : ¬ d < r2) (h3 : ¬ d < r3) (h0 : Heap) (F : List HRow) (H00 : Hp Z n0 h0 ((a, ObC Z "com/example/nearterm/nearterm/evaluation/QueryEvaluation" [("com/example/nearterm/nearterm/evaluation/QueryEvaluation", "retrieved", "I", .int t), ("com/example/nearterm/nearterm/evaluation/QueryEvaluation", "relevant", "I", .int rel), ("com/example/nearterm/nearterm/evaluation/QueryEvaluation", "relevantRanks", "[I", .ref ra)]) :: (ra, ArC Z .int [.int r1, .int r2, .int r3]) :: F)) :
    Con l Z n0 ⟨"com/example/nearterm/nearterm/evaluation/QueryEvaluation", "precisionAt", "(I)D"⟩ [] prog_31_method_6_code 3 (some .double) ({ frames := 0, cells := 0, slots := 0, locals := 0 } : Room) #[.ref a, .int d] h0 (fun v h => v = some (.double (FP.ddiv (FP.i2d (3 : Int32)) (FP.i2d d))) ∧ Hp Z n0 h ((a, ObC Z "com/example/nearterm/nearterm/evaluation/QueryEvaluation" [("com/example/nearterm/nearterm/evaluation/QueryEvaluation", "retrieved", "I", .int t), ("com/example/nearterm/nearterm/evaluation/QueryEvaluation", "relevant", "I", .int rel), ("com/example/nearterm/nearterm/evaluation/QueryEvaluation", "relevantRanks", "[I", .ref ra)]) :: (ra, ArC Z .int [.int r1, .int r2, .int r3]) :: F)) := by
  refine con_of (plainFor_of_name pn_QueryEvaluation) ?_
  intro p e s m below meth c T0 W0 e0
  have H0 : Hp Z n0 T0.heap ((a, ObC Z "com/example/nearterm/nearterm/evaluation/QueryEvaluation" [("com/example/nearterm/nearterm/evaluation/QueryEvaluation", "retrieved", "I", .int t), ("com/example/nearterm/nearterm/evaluation/QueryEvaluation", "relevant", "I", .int rel), ("com/example/nearterm/nearterm/evaluation/QueryEvaluation", "relevantRanks", "[I", .ref ra)]) :: (ra, ArC Z .int [.int r1, .int r2, .int r3]) :: F) := e0 ▸ H00
  refine g_cast (ef_4 m a d) ?_
  refine g_iloadN W0 d4_0 (pc' := 1) rfl rfl ?_
  refine g_iconst W0 d4_1 (pc' := 2) rfl (v := (1 : Int32)) (by decide) ?_
  refine g_icmp W0 d4_2 (pcy := 19) (by decide) (pc' := 5) rfl (fun (c1 : ¬ d < (1 : Int32)) => ?_) (fun (c1 : ¬ ¬ d < (1 : Int32)) => ?_)
  · refine g_iconst W0 d4_19 (pc' := 20) rfl (v := (0 : Int32)) (by decide) ?_
    refine g_istoreN W0 d4_20 (pc' := 21) rfl (ls' := #[.val (.ref a), .val (.int d), .val (.int (0 : Int32))]) rfl ?_
    refine g_iloadN W0 d4_21 (pc' := 22) rfl rfl ?_
    refine g_aloadN W0 d4_22 (pc' := 23) rfl rfl rfl ?_
    refine g_getf W0 (wd_21 hw) Via.refl H0 (i := 0) rfl (jx := 2) rfl d4_23 (pc' := 26) rfl ?_
    intro T2 W2 H2
    refine g_arrlen W2 H2 (i := 1) rfl (x := (3 : Int32)) rfl d4_26 (pc' := 27) rfl ?_
    refine g_icmp W2 d4_27 (pcy := 46) (by decide) (pc' := 30) rfl (fun (h : ¬ (0 : Int32) < (3 : Int32)) => absurd h (by decide)) (fun _ => ?_)
    refine g_aloadN W2 d4_30 (pc' := 31) rfl rfl rfl ?_
    refine g_getf W2 (wd_21 hw) Via.refl H2 (i := 0) rfl (jx := 2) rfl d4_31 (pc' := 34) rfl ?_
    intro T3 W3 H3
    refine g_iloadN W3 d4_34 (pc' := 35) rfl rfl ?_
    refine g_iaload W3 H3 (i := 1) rfl (jx := 0) (by decide) (v := .int r1) rfl d4_35 (pc' := 36) rfl ?_
    refine g_iloadN W3 d4_36 (pc' := 37) rfl rfl ?_
    refine g_icmp W3 d4_37 (pcy := 46) (by decide) (pc' := 40) rfl (fun h => absurd h h1) (fun _ => ?_)
    refine g_iinc W3 d4_40 (pc' := 43) rfl rfl (v := (1 : Int32)) (by decide) (ls' := #[.val (.ref a), .val (.int d), .val (.int (1 : Int32))]) rfl ?_
    refine g_goto W3 d4_43 (pc' := 21) (by decide) ?_
    refine g_iloadN W3 d4_21 (pc' := 22) rfl rfl ?_
    refine g_aloadN W3 d4_22 (pc' := 23) rfl rfl rfl ?_
    refine g_getf W3 (wd_21 hw) Via.refl H3 (i := 0) rfl (jx := 2) rfl d4_23 (pc' := 26) rfl ?_
    intro T4 W4 H4
    refine g_arrlen W4 H4 (i := 1) rfl (x := (3 : Int32)) rfl d4_26 (pc' := 27) rfl ?_
    refine g_icmp W4 d4_27 (pcy := 46) (by decide) (pc' := 30) rfl (fun (h : ¬ (1 : Int32) < (3 : Int32)) => absurd h (by decide)) (fun _ => ?_)
    refine g_aloadN W4 d4_30 (pc' := 31) rfl rfl rfl ?_
    refine g_getf W4 (wd_21 hw) Via.refl H4 (i := 0) rfl (jx := 2) rfl d4_31 (pc' := 34) rfl ?_
    intro T5 W5 H5
    refine g_iloadN W5 d4_34 (pc' := 35) rfl rfl ?_
    refine g_iaload W5 H5 (i := 1) rfl (jx := 1) (by decide) (v := .int r2) rfl d4_35 (pc' := 36) rfl ?_
    refine g_iloadN W5 d4_36 (pc' := 37) rfl rfl ?_
    refine g_icmp W5 d4_37 (pcy := 46) (by decide) (pc' := 40) rfl (fun h => absurd h h2) (fun _ => ?_)
    refine g_iinc W5 d4_40 (pc' := 43) rfl rfl (v := (2 : Int32)) (by decide) (ls' := #[.val (.ref a), .val (.int d), .val (.int (2 : Int32))]) rfl ?_
    refine g_goto W5 d4_43 (pc' := 21) (by decide) ?_
    refine g_iloadN W5 d4_21 (pc' := 22) rfl rfl ?_
    refine g_aloadN W5 d4_22 (pc' := 23) rfl rfl rfl ?_
    refine g_getf W5 (wd_21 hw) Via.refl H5 (i := 0) rfl (jx := 2) rfl d4_23 (pc' := 26) rfl ?_
    intro T6 W6 H6
    refine g_arrlen W6 H6 (i := 1) rfl (x := (3 : Int32)) rfl d4_26 (pc' := 27) rfl ?_
    refine g_icmp W6 d4_27 (pcy := 46) (by decide) (pc' := 30) rfl (fun (h : ¬ (2 : Int32) < (3 : Int32)) => absurd h (by decide)) (fun _ => ?_)
    refine g_aloadN W6 d4_30 (pc' := 31) rfl rfl rfl ?_
    refine g_getf W6 (wd_21 hw) Via.refl H6 (i := 0) rfl (jx := 2) rfl d4_31 (pc' := 34) rfl ?_
    intro T7 W7 H7
    refine g_iloadN W7 d4_34 (pc' := 35) rfl rfl ?_
    refine g_iaload W7 H7 (i := 1) rfl (jx := 2) (by decide) (v := .int r3) rfl d4_35 (pc' := 36) rfl ?_
    refine g_iloadN W7 d4_36 (pc' := 37) rfl rfl ?_
    refine g_icmp W7 d4_37 (pcy := 46) (by decide) (pc' := 40) rfl (fun h => absurd h h3) (fun _ => ?_)
    refine g_iinc W7 d4_40 (pc' := 43) rfl rfl (v := (3 : Int32)) (by decide) (ls' := #[.val (.ref a), .val (.int d), .val (.int (3 : Int32))]) rfl ?_
    refine g_goto W7 d4_43 (pc' := 21) (by decide) ?_
    refine g_iloadN W7 d4_21 (pc' := 22) rfl rfl ?_
    refine g_aloadN W7 d4_22 (pc' := 23) rfl rfl rfl ?_
    refine g_getf W7 (wd_21 hw) Via.refl H7 (i := 0) rfl (jx := 2) rfl d4_23 (pc' := 26) rfl ?_
    intro T8 W8 H8
    refine g_arrlen W8 H8 (i := 1) rfl (x := (3 : Int32)) rfl d4_26 (pc' := 27) rfl ?_
    refine g_icmp W8 d4_27 (pcy := 46) (by decide) (pc' := 30) rfl (fun _ => ?_) (fun (h : ¬ ¬ (3 : Int32) < (3 : Int32)) => absurd h (by decide))
    refine g_iloadN W8 d4_46 (pc' := 47) rfl rfl ?_
    refine g_i2d W8 d4_47 (pc' := 48) rfl rfl ?_
    refine g_iloadN W8 d4_48 (pc' := 49) rfl rfl ?_
    refine g_i2d W8 d4_49 (pc' := 50) rfl rfl ?_
    refine g_ddiv W8 d4_50 (pc' := 51) rfl rfl (own_div (own_nz hd)) ?_
    exact g_dreturn W8 d4_51 ⟨rfl, H8⟩ (by decide) (by decide)
  · replace c1 := Classical.not_not.mp c1
    exact absurd c1 hd
set_option maxRecDepth 65536 in
set_option maxHeartbeats 40000000 in
theorem law_con (l : Launch) (Z : State) (a0 : Array Value) (hw : ∀ d ∈ tables_1, d.before a0 Z = true) (n0 : Nat) (p0 p1 p2 p3 p4 p5 : Int32) (h0 : Heap) (H00 : Hp Z n0 h0 []) :
    Con l Z n0 x tables_1 code maxLocals ret room_1 #[.int p0, .int p1, .int p2, .int p3, .int p4, .int p5] h0 (fun v _ => v = some (.int 1)) := by
  refine con_of (plainFor_of_name pn_QueryEvaluationPrecisionAtPinLaw) ?_
  intro p e s m below meth c T0 W0 e0
  have H0 : Hp Z n0 T0.heap [] := e0 ▸ H00
  refine g_cast (ef_0 m p0 p1 p2 p3 p4 p5) ?_
  refine g_iconst W0 at_0 (pc' := 1) rfl (v := (1 : Int32)) (by decide) ?_
  refine g_iloadN W0 at_1 (pc' := 2) rfl rfl ?_
  refine g_ldcInt W0 (wd_0 hw) at_2 (pc' := 4) rfl ?_
  refine g_iand W0 at_4 (pc' := 5) rfl rfl ?_
  refine g_callS W0 (argsL := [.int (1 : Int32), .int (p0 &&& (2147483647 : Int32))]) (st := []) (wd_1 hw) (wd_2 hw) (wd_3 hw) (wd_4 hw) (by decide) (c_max l Z a0 hw n0 (1 : Int32) (p0 &&& (2147483647 : Int32)) _ _ H0) pd_0 rfl rfl rfl at_5 (pc' := 8) rfl (by decide) (Wn := 0) (Nat.le_of_eq rfl) (by decide) (kc' := 0) (ks' := 0) rfl rfl (by decide) (by decide) ?_
  intro T1 v1 W1 hp1
  obtain ⟨⟨d, rfl, hd⟩, H1⟩ := hp1
  show Goes p e below _ (T1.setTop (mkF m 8 #[.val (.int p0), .val (.int p1), .val (.int p2), .val (.int p3), .val (.int p4), .val (.int p5), .unset, .unset, .unset, .unset, .unset, .unset, .unset, .unset, .unset, .unset, .unset, .unset, .unset] [.int d]))
  refine g_istore W1 at_8 (pc' := 10) rfl (ls' := #[.val (.int p0), .val (.int p1), .val (.int p2), .val (.int p3), .val (.int p4), .val (.int p5), .val (.int d), .unset, .unset, .unset, .unset, .unset, .unset, .unset, .unset, .unset, .unset, .unset, .unset]) rfl ?_
  refine g_iloadN W1 at_10 (pc' := 11) rfl rfl ?_
  refine g_iconst W1 at_11 (pc' := 12) rfl (v := (3 : Int32)) (by decide) ?_
  refine g_iand W1 at_12 (pc' := 13) rfl rfl ?_
  rcases and3 p1 with hn | hn | hn | hn
  · rw [hn]
    obtain ⟨r1, r2, r3, hr1, hr2, hr3, z1, z2, z3, l1, l2⟩ := own_ranks p2 p3 p4
    refine g_istore W1 at_13 (pc' := 15) rfl (ls' := #[.val (.int p0), .val (.int p1), .val (.int p2), .val (.int p3), .val (.int p4), .val (.int p5), .val (.int d), .val (.int (0 : Int32)), .unset, .unset, .unset, .unset, .unset, .unset, .unset, .unset, .unset, .unset, .unset]) rfl ?_
    refine g_iconst W1 at_15 (pc' := 16) rfl (v := (1 : Int32)) (by decide) ?_
    refine g_iloadN W1 at_16 (pc' := 17) rfl rfl ?_
    refine g_ldcInt W1 (wd_5 hw) at_17 (pc' := 19) rfl ?_
    refine g_iand W1 at_19 (pc' := 20) rfl rfl ?_
    refine g_iadd W1 at_20 (pc' := 21) rfl rfl ?_
    rw [← hr1]
    refine g_istore W1 at_21 (pc' := 23) rfl (ls' := #[.val (.int p0), .val (.int p1), .val (.int p2), .val (.int p3), .val (.int p4), .val (.int p5), .val (.int d), .val (.int (0 : Int32)), .val (.int r1), .unset, .unset, .unset, .unset, .unset, .unset, .unset, .unset, .unset, .unset]) rfl ?_
    refine g_iload W1 at_23 (pc' := 25) rfl rfl ?_
    refine g_iconst W1 at_25 (pc' := 26) rfl (v := (1 : Int32)) (by decide) ?_
    refine g_iadd W1 at_26 (pc' := 27) rfl rfl ?_
    refine g_iloadN W1 at_27 (pc' := 28) rfl rfl ?_
    refine g_ldcInt W1 (wd_5 hw) at_28 (pc' := 30) rfl ?_
    refine g_iand W1 at_30 (pc' := 31) rfl rfl ?_
    refine g_iadd W1 at_31 (pc' := 32) rfl rfl ?_
    rw [← hr2]
    refine g_istore W1 at_32 (pc' := 34) rfl (ls' := #[.val (.int p0), .val (.int p1), .val (.int p2), .val (.int p3), .val (.int p4), .val (.int p5), .val (.int d), .val (.int (0 : Int32)), .val (.int r1), .val (.int r2), .unset, .unset, .unset, .unset, .unset, .unset, .unset, .unset, .unset]) rfl ?_
    refine g_iload W1 at_34 (pc' := 36) rfl rfl ?_
    refine g_iconst W1 at_36 (pc' := 37) rfl (v := (1 : Int32)) (by decide) ?_
    refine g_iadd W1 at_37 (pc' := 38) rfl rfl ?_
    refine g_iload W1 at_38 (pc' := 40) rfl rfl ?_
    refine g_ldcInt W1 (wd_5 hw) at_40 (pc' := 42) rfl ?_
    refine g_iand W1 at_42 (pc' := 43) rfl rfl ?_
    refine g_iadd W1 at_43 (pc' := 44) rfl rfl ?_
    rw [← hr3]
    refine g_istore W1 at_44 (pc' := 46) rfl (ls' := #[.val (.int p0), .val (.int p1), .val (.int p2), .val (.int p3), .val (.int p4), .val (.int p5), .val (.int d), .val (.int (0 : Int32)), .val (.int r1), .val (.int r2), .val (.int r3), .unset, .unset, .unset, .unset, .unset, .unset, .unset, .unset]) rfl ?_
    refine g_iload W1 at_46 (pc' := 48) rfl rfl ?_
    refine g_if W1 at_48 (pcy := 62) (by decide) (pc' := 51) rfl (fun (h : ¬ (0 : Int32) = (0 : Int32)) => absurd h (by decide)) (fun _ => ?_)
    refine g_iconst W1 at_51 (pc' := 52) rfl (v := (0 : Int32)) (by decide) ?_
    refine g_newarr (aty := .int) W1 (wd_6 hw) H1 (by decide) (vs := []) rfl (cap := 0) (Nat.le_of_eq rfl) (by decide) at_52 (pc' := 54) rfl (kc' := 1) (ks' := 0) rfl rfl (by decide) (by decide) ?_
    intro T2 a2 W2 H2
    replace H2 : Hp Z n0 T2.heap [(a2, ArC Z .int [])] := H2
    refine g_astore W2 at_54 (pc' := 56) rfl rfl (ls' := #[.val (.int p0), .val (.int p1), .val (.int p2), .val (.int p3), .val (.int p4), .val (.int p5), .val (.int d), .val (.int (0 : Int32)), .val (.int r1), .val (.int r2), .val (.int r3), .val (.ref a2), .unset, .unset, .unset, .unset, .unset, .unset, .unset]) rfl ?_
    refine g_iconst W2 at_56 (pc' := 57) rfl (v := (0 : Int32)) (by decide) ?_
    refine g_istore W2 at_57 (pc' := 59) rfl (ls' := #[.val (.int p0), .val (.int p1), .val (.int p2), .val (.int p3), .val (.int p4), .val (.int p5), .val (.int d), .val (.int (0 : Int32)), .val (.int r1), .val (.int r2), .val (.int r3), .val (.ref a2), .val (.int (0 : Int32)), .unset, .unset, .unset, .unset, .unset, .unset]) rfl ?_
    refine g_goto W2 at_59 (pc' := 137) (by decide) ?_
    refine g_iload W2 at_137 (pc' := 139) rfl rfl ?_
    refine g_iload W2 at_139 (pc' := 141) rfl rfl ?_
    refine g_ldcInt W2 (wd_7 hw) at_141 (pc' := 143) rfl ?_
    refine g_iand W2 at_143 (pc' := 144) rfl rfl ?_
    refine g_iadd W2 at_144 (pc' := 145) rfl rfl ?_
    generalize h_ret0 : ((0 : Int32) + (p5 &&& (65535 : Int32))) = ret0
    refine g_istore W2 at_145 (pc' := 147) rfl (ls' := #[.val (.int p0), .val (.int p1), .val (.int p2), .val (.int p3), .val (.int p4), .val (.int p5), .val (.int d), .val (.int (0 : Int32)), .val (.int r1), .val (.int r2), .val (.int r3), .val (.ref a2), .val (.int (0 : Int32)), .val (.int ret0), .unset, .unset, .unset, .unset, .unset]) rfl ?_
    refine g_iload W2 at_147 (pc' := 149) rfl rfl ?_
    refine g_iload W2 at_149 (pc' := 151) rfl rfl ?_
    refine g_bipush W2 at_151 (pc' := 153) rfl (v := (16 : Int32)) (by decide) ?_
    refine g_iushr W2 at_153 (pc' := 154) rfl rfl ?_
    refine g_sipush W2 at_154 (pc' := 157) rfl (v := (255 : Int32)) (by decide) ?_
    refine g_iand W2 at_157 (pc' := 158) rfl rfl ?_
    refine g_iadd W2 at_158 (pc' := 159) rfl rfl ?_
    generalize h_rel : ((0 : Int32) + ((XT.ushr p5 (16 : Int32)) &&& (255 : Int32))) = rel
    refine g_istore W2 at_159 (pc' := 161) rfl (ls' := #[.val (.int p0), .val (.int p1), .val (.int p2), .val (.int p3), .val (.int p4), .val (.int p5), .val (.int d), .val (.int (0 : Int32)), .val (.int r1), .val (.int r2), .val (.int r3), .val (.ref a2), .val (.int (0 : Int32)), .val (.int ret0), .val (.int rel), .unset, .unset, .unset, .unset]) rfl ?_
    refine g_new W2 (wd_8 hw) (wd_9 hw) (wd_10 hw) (la_QueryEvaluation hw) (by decide) H2 at_161 (pc' := 164) rfl (kc' := 2) (ks' := 3) rfl rfl (by decide) (by decide) ?_
    intro T3 a3 W3 H3
    refine g_dup W3 at_164 (pc' := 165) rfl rfl ?_
    refine g_iload W3 at_165 (pc' := 167) rfl rfl ?_
    refine g_iload W3 at_167 (pc' := 169) rfl rfl ?_
    refine g_aload W3 at_169 (pc' := 171) rfl rfl rfl ?_
    refine g_callI W3 (argsL := [.int ret0, .int rel, .ref a2]) (st := [.ref a3]) rfl (wd_11 hw) (wd_12 hw) (wd_10 hw) (wd_13 hw) (by decide) (a := a3) (c_init l Z a0 hw n0 a3 a2 ret0 rel _ _ H3) pd_1 rfl rfl rfl at_171 (pc' := 174) rfl (by decide) (Wn := 1) (Nat.le_of_eq rfl) (by decide) (kc' := 2) (ks' := 3) rfl rfl (by decide) (by decide) ?_
    intro T4 v4 W4 hp4
    obtain ⟨rfl, H4⟩ := hp4
    show Goes p e below _ (T4.setTop (mkF m 174 #[.val (.int p0), .val (.int p1), .val (.int p2), .val (.int p3), .val (.int p4), .val (.int p5), .val (.int d), .val (.int (0 : Int32)), .val (.int r1), .val (.int r2), .val (.int r3), .val (.ref a2), .val (.int (0 : Int32)), .val (.int ret0), .val (.int rel), .unset, .unset, .unset, .unset] [.ref a3]))
    refine g_astore W4 at_174 (pc' := 176) rfl rfl (ls' := #[.val (.int p0), .val (.int p1), .val (.int p2), .val (.int p3), .val (.int p4), .val (.int p5), .val (.int d), .val (.int (0 : Int32)), .val (.int r1), .val (.int r2), .val (.int r3), .val (.ref a2), .val (.int (0 : Int32)), .val (.int ret0), .val (.int rel), .val (.ref a3), .unset, .unset, .unset]) rfl ?_
    refine g_iconst W4 at_176 (pc' := 177) rfl (v := (0 : Int32)) (by decide) ?_
    refine g_istore W4 at_177 (pc' := 179) rfl (ls' := #[.val (.int p0), .val (.int p1), .val (.int p2), .val (.int p3), .val (.int p4), .val (.int p5), .val (.int d), .val (.int (0 : Int32)), .val (.int r1), .val (.int r2), .val (.int r3), .val (.ref a2), .val (.int (0 : Int32)), .val (.int ret0), .val (.int rel), .val (.ref a3), .val (.int (0 : Int32)), .unset, .unset]) rfl ?_
    refine g_iload W4 at_179 (pc' := 181) rfl rfl ?_
    refine g_iconst W4 at_181 (pc' := 182) rfl (v := (1 : Int32)) (by decide) ?_
    refine g_icmp W4 at_182 (pcy := 198) (by decide) (pc' := 185) rfl (fun _ => ?_) (fun (h : ¬ (0 : Int32) < (1 : Int32)) => absurd h (by decide))
    refine g_iload W4 at_198 (pc' := 200) rfl rfl ?_
    refine g_iconst W4 at_200 (pc' := 201) rfl (v := (2 : Int32)) (by decide) ?_
    refine g_icmp W4 at_201 (pcy := 217) (by decide) (pc' := 204) rfl (fun _ => ?_) (fun (h : ¬ (0 : Int32) < (2 : Int32)) => absurd h (by decide))
    refine g_iload W4 at_217 (pc' := 219) rfl rfl ?_
    refine g_iconst W4 at_219 (pc' := 220) rfl (v := (3 : Int32)) (by decide) ?_
    refine g_icmp W4 at_220 (pcy := 236) (by decide) (pc' := 223) rfl (fun _ => ?_) (fun (h : ¬ (0 : Int32) < (3 : Int32)) => absurd h (by decide))
    refine g_iload W4 at_236 (pc' := 238) rfl rfl ?_
    refine g_i2d W4 at_238 (pc' := 239) rfl rfl ?_
    refine g_iload W4 at_239 (pc' := 241) rfl rfl ?_
    refine g_i2d W4 at_241 (pc' := 242) rfl rfl ?_
    refine g_ddiv W4 at_242 (pc' := 243) rfl rfl (own_div (own_nz hd)) ?_
    refine g_dstore W4 at_243 (pc' := 245) rfl (ls' := #[.val (.int p0), .val (.int p1), .val (.int p2), .val (.int p3), .val (.int p4), .val (.int p5), .val (.int d), .val (.int (0 : Int32)), .val (.int r1), .val (.int r2), .val (.int r3), .val (.ref a2), .val (.int (0 : Int32)), .val (.int ret0), .val (.int rel), .val (.ref a3), .val (.int (0 : Int32)), .val (.double (FP.ddiv (FP.i2d (0 : Int32)) (FP.i2d d))), .second]) rfl ?_
    refine g_aload W4 at_245 (pc' := 247) rfl rfl rfl ?_
    refine g_iload W4 at_247 (pc' := 249) rfl rfl ?_
    have H5f : Hp Z n0 T4.heap [(a2, ArC Z .int []), (a3, ObC Z "com/example/nearterm/nearterm/evaluation/QueryEvaluation" [("com/example/nearterm/nearterm/evaluation/QueryEvaluation", "retrieved", "I", .int ret0), ("com/example/nearterm/nearterm/evaluation/QueryEvaluation", "relevant", "I", .int rel), ("com/example/nearterm/nearterm/evaluation/QueryEvaluation", "relevantRanks", "[I", .ref a2)])] := H4.front (i := 1) rfl rfl
    have H6f : Hp Z n0 T4.heap [(a3, ObC Z "com/example/nearterm/nearterm/evaluation/QueryEvaluation" [("com/example/nearterm/nearterm/evaluation/QueryEvaluation", "retrieved", "I", .int ret0), ("com/example/nearterm/nearterm/evaluation/QueryEvaluation", "relevant", "I", .int rel), ("com/example/nearterm/nearterm/evaluation/QueryEvaluation", "relevantRanks", "[I", .ref a2)]), (a2, ArC Z .int [])] := H5f.front (i := 1) rfl rfl
    refine g_callV W4 (argsL := [.int d]) (st := []) (wd_23 hw) (wd_24 hw) (wd_26 hw) (wd_25 hw) (wd_10 hw) (wd_27 hw) (by decide) (a := a3) H6f (i := 0) rfl (c_pa00 l Z a0 hw n0 a3 a2 ret0 rel  d hd  _ _ H6f) pd_2 rfl rfl rfl at_249 (pc' := 252) rfl (by decide) (Wn := 0) (Nat.le_of_eq rfl) (by decide) (kc' := 2) (ks' := 3) rfl rfl (by decide) (by decide) ?_
    intro T7 v7 W7 hp7
    obtain ⟨rfl, H7⟩ := hp7
    show Goes p e below _ (T7.setTop (mkF m 252 #[.val (.int p0), .val (.int p1), .val (.int p2), .val (.int p3), .val (.int p4), .val (.int p5), .val (.int d), .val (.int (0 : Int32)), .val (.int r1), .val (.int r2), .val (.int r3), .val (.ref a2), .val (.int (0 : Int32)), .val (.int ret0), .val (.int rel), .val (.ref a3), .val (.int (0 : Int32)), .val (.double (FP.ddiv (FP.i2d (0 : Int32)) (FP.i2d d))), .second] [.double (FP.ddiv (FP.i2d (0 : Int32)) (FP.i2d d))]))
    refine g_dload W7 at_252 (pc' := 254) rfl rfl ?_
    refine g_dcmp W7 at_254 (pc' := 255) rfl rfl ?_
    rw [show (cmpValue (FP.dcmp (FP.ddiv (FP.i2d (0 : Int32)) (FP.i2d d)) (FP.ddiv (FP.i2d (0 : Int32)) (FP.i2d d))) .l) = (0 : Int32) from dcmpV_self (own_div (own_nz hd)) .l]
    refine g_if W7 at_255 (pcy := 262) (by decide) (pc' := 258) rfl (fun (h : ¬ (0 : Int32) = (0 : Int32)) => absurd h (by decide)) (fun _ => ?_)
    refine g_iconst W7 at_258 (pc' := 259) rfl (v := (1 : Int32)) (by decide) ?_
    refine g_goto W7 at_259 (pc' := 263) (by decide) ?_
    exact g_zreturn W7 (by decide) at_263 rfl (by decide) (by decide)
  · rw [hn]
    obtain ⟨r1, r2, r3, hr1, hr2, hr3, z1, z2, z3, l1, l2⟩ := own_ranks p2 p3 p4
    refine g_istore W1 at_13 (pc' := 15) rfl (ls' := #[.val (.int p0), .val (.int p1), .val (.int p2), .val (.int p3), .val (.int p4), .val (.int p5), .val (.int d), .val (.int (1 : Int32)), .unset, .unset, .unset, .unset, .unset, .unset, .unset, .unset, .unset, .unset, .unset]) rfl ?_
    refine g_iconst W1 at_15 (pc' := 16) rfl (v := (1 : Int32)) (by decide) ?_
    refine g_iloadN W1 at_16 (pc' := 17) rfl rfl ?_
    refine g_ldcInt W1 (wd_5 hw) at_17 (pc' := 19) rfl ?_
    refine g_iand W1 at_19 (pc' := 20) rfl rfl ?_
    refine g_iadd W1 at_20 (pc' := 21) rfl rfl ?_
    rw [← hr1]
    refine g_istore W1 at_21 (pc' := 23) rfl (ls' := #[.val (.int p0), .val (.int p1), .val (.int p2), .val (.int p3), .val (.int p4), .val (.int p5), .val (.int d), .val (.int (1 : Int32)), .val (.int r1), .unset, .unset, .unset, .unset, .unset, .unset, .unset, .unset, .unset, .unset]) rfl ?_
    refine g_iload W1 at_23 (pc' := 25) rfl rfl ?_
    refine g_iconst W1 at_25 (pc' := 26) rfl (v := (1 : Int32)) (by decide) ?_
    refine g_iadd W1 at_26 (pc' := 27) rfl rfl ?_
    refine g_iloadN W1 at_27 (pc' := 28) rfl rfl ?_
    refine g_ldcInt W1 (wd_5 hw) at_28 (pc' := 30) rfl ?_
    refine g_iand W1 at_30 (pc' := 31) rfl rfl ?_
    refine g_iadd W1 at_31 (pc' := 32) rfl rfl ?_
    rw [← hr2]
    refine g_istore W1 at_32 (pc' := 34) rfl (ls' := #[.val (.int p0), .val (.int p1), .val (.int p2), .val (.int p3), .val (.int p4), .val (.int p5), .val (.int d), .val (.int (1 : Int32)), .val (.int r1), .val (.int r2), .unset, .unset, .unset, .unset, .unset, .unset, .unset, .unset, .unset]) rfl ?_
    refine g_iload W1 at_34 (pc' := 36) rfl rfl ?_
    refine g_iconst W1 at_36 (pc' := 37) rfl (v := (1 : Int32)) (by decide) ?_
    refine g_iadd W1 at_37 (pc' := 38) rfl rfl ?_
    refine g_iload W1 at_38 (pc' := 40) rfl rfl ?_
    refine g_ldcInt W1 (wd_5 hw) at_40 (pc' := 42) rfl ?_
    refine g_iand W1 at_42 (pc' := 43) rfl rfl ?_
    refine g_iadd W1 at_43 (pc' := 44) rfl rfl ?_
    rw [← hr3]
    refine g_istore W1 at_44 (pc' := 46) rfl (ls' := #[.val (.int p0), .val (.int p1), .val (.int p2), .val (.int p3), .val (.int p4), .val (.int p5), .val (.int d), .val (.int (1 : Int32)), .val (.int r1), .val (.int r2), .val (.int r3), .unset, .unset, .unset, .unset, .unset, .unset, .unset, .unset]) rfl ?_
    refine g_iload W1 at_46 (pc' := 48) rfl rfl ?_
    refine g_if W1 at_48 (pcy := 62) (by decide) (pc' := 51) rfl (fun _ => ?_) (fun (h : ¬ ¬ (1 : Int32) = (0 : Int32)) => absurd h (by decide))
    refine g_iload W1 at_62 (pc' := 64) rfl rfl ?_
    refine g_iconst W1 at_64 (pc' := 65) rfl (v := (1 : Int32)) (by decide) ?_
    refine g_icmp W1 at_65 (pcy := 85) (by decide) (pc' := 68) rfl (fun (h : ¬ (1 : Int32) = (1 : Int32)) => absurd h (by decide)) (fun _ => ?_)
    refine g_iconst W1 at_68 (pc' := 69) rfl (v := (1 : Int32)) (by decide) ?_
    refine g_newarr (aty := .int) W1 (wd_6 hw) H1 (by decide) (vs := [.int 0]) rfl (cap := 1) (Nat.le_of_eq rfl) (by decide) at_69 (pc' := 71) rfl (kc' := 1) (ks' := 1) rfl rfl (by decide) (by decide) ?_
    intro T8 a8 W8 H8
    replace H8 : Hp Z n0 T8.heap [(a8, ArC Z .int [.int 0])] := H8
    refine g_dup W8 at_71 (pc' := 72) rfl rfl ?_
    refine g_iconst W8 at_72 (pc' := 73) rfl (v := (0 : Int32)) (by decide) ?_
    refine g_iload W8 at_73 (pc' := 75) rfl rfl ?_
    refine g_iastore W8 H8 (i := 0) rfl (jx := 0) (by decide) (by exact (by decide : 0 < 1)) at_75 (pc' := 76) rfl (L' := [(a8, ArC Z .int [.int r1])]) rfl ?_
    intro T9 W9 H9
    refine g_astore W9 at_76 (pc' := 78) rfl rfl (ls' := #[.val (.int p0), .val (.int p1), .val (.int p2), .val (.int p3), .val (.int p4), .val (.int p5), .val (.int d), .val (.int (1 : Int32)), .val (.int r1), .val (.int r2), .val (.int r3), .val (.ref a8), .unset, .unset, .unset, .unset, .unset, .unset, .unset]) rfl ?_
    refine g_iload W9 at_78 (pc' := 80) rfl rfl ?_
    refine g_istore W9 at_80 (pc' := 82) rfl (ls' := #[.val (.int p0), .val (.int p1), .val (.int p2), .val (.int p3), .val (.int p4), .val (.int p5), .val (.int d), .val (.int (1 : Int32)), .val (.int r1), .val (.int r2), .val (.int r3), .val (.ref a8), .val (.int r1), .unset, .unset, .unset, .unset, .unset, .unset]) rfl ?_
    refine g_goto W9 at_82 (pc' := 137) (by decide) ?_
    refine g_iload W9 at_137 (pc' := 139) rfl rfl ?_
    refine g_iload W9 at_139 (pc' := 141) rfl rfl ?_
    refine g_ldcInt W9 (wd_7 hw) at_141 (pc' := 143) rfl ?_
    refine g_iand W9 at_143 (pc' := 144) rfl rfl ?_
    refine g_iadd W9 at_144 (pc' := 145) rfl rfl ?_
    generalize h_ret0 : (r1 + (p5 &&& (65535 : Int32))) = ret0
    refine g_istore W9 at_145 (pc' := 147) rfl (ls' := #[.val (.int p0), .val (.int p1), .val (.int p2), .val (.int p3), .val (.int p4), .val (.int p5), .val (.int d), .val (.int (1 : Int32)), .val (.int r1), .val (.int r2), .val (.int r3), .val (.ref a8), .val (.int r1), .val (.int ret0), .unset, .unset, .unset, .unset, .unset]) rfl ?_
    refine g_iload W9 at_147 (pc' := 149) rfl rfl ?_
    refine g_iload W9 at_149 (pc' := 151) rfl rfl ?_
    refine g_bipush W9 at_151 (pc' := 153) rfl (v := (16 : Int32)) (by decide) ?_
    refine g_iushr W9 at_153 (pc' := 154) rfl rfl ?_
    refine g_sipush W9 at_154 (pc' := 157) rfl (v := (255 : Int32)) (by decide) ?_
    refine g_iand W9 at_157 (pc' := 158) rfl rfl ?_
    refine g_iadd W9 at_158 (pc' := 159) rfl rfl ?_
    generalize h_rel : ((1 : Int32) + ((XT.ushr p5 (16 : Int32)) &&& (255 : Int32))) = rel
    refine g_istore W9 at_159 (pc' := 161) rfl (ls' := #[.val (.int p0), .val (.int p1), .val (.int p2), .val (.int p3), .val (.int p4), .val (.int p5), .val (.int d), .val (.int (1 : Int32)), .val (.int r1), .val (.int r2), .val (.int r3), .val (.ref a8), .val (.int r1), .val (.int ret0), .val (.int rel), .unset, .unset, .unset, .unset]) rfl ?_
    refine g_new W9 (wd_8 hw) (wd_9 hw) (wd_10 hw) (la_QueryEvaluation hw) (by decide) H9 at_161 (pc' := 164) rfl (kc' := 2) (ks' := 4) rfl rfl (by decide) (by decide) ?_
    intro T10 a10 W10 H10
    refine g_dup W10 at_164 (pc' := 165) rfl rfl ?_
    refine g_iload W10 at_165 (pc' := 167) rfl rfl ?_
    refine g_iload W10 at_167 (pc' := 169) rfl rfl ?_
    refine g_aload W10 at_169 (pc' := 171) rfl rfl rfl ?_
    refine g_callI W10 (argsL := [.int ret0, .int rel, .ref a8]) (st := [.ref a10]) rfl (wd_11 hw) (wd_12 hw) (wd_10 hw) (wd_13 hw) (by decide) (a := a10) (c_init l Z a0 hw n0 a10 a8 ret0 rel _ _ H10) pd_1 rfl rfl rfl at_171 (pc' := 174) rfl (by decide) (Wn := 1) (Nat.le_of_eq rfl) (by decide) (kc' := 2) (ks' := 4) rfl rfl (by decide) (by decide) ?_
    intro T11 v11 W11 hp11
    obtain ⟨rfl, H11⟩ := hp11
    show Goes p e below _ (T11.setTop (mkF m 174 #[.val (.int p0), .val (.int p1), .val (.int p2), .val (.int p3), .val (.int p4), .val (.int p5), .val (.int d), .val (.int (1 : Int32)), .val (.int r1), .val (.int r2), .val (.int r3), .val (.ref a8), .val (.int r1), .val (.int ret0), .val (.int rel), .unset, .unset, .unset, .unset] [.ref a10]))
    refine g_astore W11 at_174 (pc' := 176) rfl rfl (ls' := #[.val (.int p0), .val (.int p1), .val (.int p2), .val (.int p3), .val (.int p4), .val (.int p5), .val (.int d), .val (.int (1 : Int32)), .val (.int r1), .val (.int r2), .val (.int r3), .val (.ref a8), .val (.int r1), .val (.int ret0), .val (.int rel), .val (.ref a10), .unset, .unset, .unset]) rfl ?_
    refine g_iconst W11 at_176 (pc' := 177) rfl (v := (0 : Int32)) (by decide) ?_
    refine g_istore W11 at_177 (pc' := 179) rfl (ls' := #[.val (.int p0), .val (.int p1), .val (.int p2), .val (.int p3), .val (.int p4), .val (.int p5), .val (.int d), .val (.int (1 : Int32)), .val (.int r1), .val (.int r2), .val (.int r3), .val (.ref a8), .val (.int r1), .val (.int ret0), .val (.int rel), .val (.ref a10), .val (.int (0 : Int32)), .unset, .unset]) rfl ?_
    refine g_iload W11 at_179 (pc' := 181) rfl rfl ?_
    refine g_iconst W11 at_181 (pc' := 182) rfl (v := (1 : Int32)) (by decide) ?_
    refine g_icmp W11 at_182 (pcy := 198) (by decide) (pc' := 185) rfl (fun (h : (1 : Int32) < (1 : Int32)) => absurd h (by decide)) (fun _ => ?_)
    refine g_iload W11 at_185 (pc' := 187) rfl rfl ?_
    refine g_iload W11 at_187 (pc' := 189) rfl rfl ?_
    have H12f : Hp Z n0 T11.heap [(a8, ArC Z .int [.int r1]), (a10, ObC Z "com/example/nearterm/nearterm/evaluation/QueryEvaluation" [("com/example/nearterm/nearterm/evaluation/QueryEvaluation", "retrieved", "I", .int ret0), ("com/example/nearterm/nearterm/evaluation/QueryEvaluation", "relevant", "I", .int rel), ("com/example/nearterm/nearterm/evaluation/QueryEvaluation", "relevantRanks", "[I", .ref a8)])] := H11.front (i := 1) rfl rfl
    have H13f : Hp Z n0 T11.heap [(a10, ObC Z "com/example/nearterm/nearterm/evaluation/QueryEvaluation" [("com/example/nearterm/nearterm/evaluation/QueryEvaluation", "retrieved", "I", .int ret0), ("com/example/nearterm/nearterm/evaluation/QueryEvaluation", "relevant", "I", .int rel), ("com/example/nearterm/nearterm/evaluation/QueryEvaluation", "relevantRanks", "[I", .ref a8)]), (a8, ArC Z .int [.int r1])] := H12f.front (i := 1) rfl rfl
    refine g_icmp W11 at_189 (pcy := 198) (by decide) (pc' := 192) rfl (fun (c14 : d < r1) => ?_) (fun (c14 : ¬ d < r1) => ?_)
    · refine g_iload W11 at_198 (pc' := 200) rfl rfl ?_
      refine g_iconst W11 at_200 (pc' := 201) rfl (v := (2 : Int32)) (by decide) ?_
      refine g_icmp W11 at_201 (pcy := 217) (by decide) (pc' := 204) rfl (fun _ => ?_) (fun (h : ¬ (1 : Int32) < (2 : Int32)) => absurd h (by decide))
      refine g_iload W11 at_217 (pc' := 219) rfl rfl ?_
      refine g_iconst W11 at_219 (pc' := 220) rfl (v := (3 : Int32)) (by decide) ?_
      refine g_icmp W11 at_220 (pcy := 236) (by decide) (pc' := 223) rfl (fun _ => ?_) (fun (h : ¬ (1 : Int32) < (3 : Int32)) => absurd h (by decide))
      refine g_iload W11 at_236 (pc' := 238) rfl rfl ?_
      refine g_i2d W11 at_238 (pc' := 239) rfl rfl ?_
      refine g_iload W11 at_239 (pc' := 241) rfl rfl ?_
      refine g_i2d W11 at_241 (pc' := 242) rfl rfl ?_
      refine g_ddiv W11 at_242 (pc' := 243) rfl rfl (own_div (own_nz hd)) ?_
      refine g_dstore W11 at_243 (pc' := 245) rfl (ls' := #[.val (.int p0), .val (.int p1), .val (.int p2), .val (.int p3), .val (.int p4), .val (.int p5), .val (.int d), .val (.int (1 : Int32)), .val (.int r1), .val (.int r2), .val (.int r3), .val (.ref a8), .val (.int r1), .val (.int ret0), .val (.int rel), .val (.ref a10), .val (.int (0 : Int32)), .val (.double (FP.ddiv (FP.i2d (0 : Int32)) (FP.i2d d))), .second]) rfl ?_
      refine g_aload W11 at_245 (pc' := 247) rfl rfl rfl ?_
      refine g_iload W11 at_247 (pc' := 249) rfl rfl ?_
      refine g_callV W11 (argsL := [.int d]) (st := []) (wd_23 hw) (wd_24 hw) (wd_26 hw) (wd_25 hw) (wd_10 hw) (wd_27 hw) (by decide) (a := a10) H13f (i := 0) rfl (c_pa10 l Z a0 hw n0 a10 a8 ret0 rel r1 d hd c14 _ _ H13f) pd_2 rfl rfl rfl at_249 (pc' := 252) rfl (by decide) (Wn := 0) (Nat.le_of_eq rfl) (by decide) (kc' := 2) (ks' := 4) rfl rfl (by decide) (by decide) ?_
      intro T15 v15 W15 hp15
      obtain ⟨rfl, H15⟩ := hp15
      show Goes p e below _ (T15.setTop (mkF m 252 #[.val (.int p0), .val (.int p1), .val (.int p2), .val (.int p3), .val (.int p4), .val (.int p5), .val (.int d), .val (.int (1 : Int32)), .val (.int r1), .val (.int r2), .val (.int r3), .val (.ref a8), .val (.int r1), .val (.int ret0), .val (.int rel), .val (.ref a10), .val (.int (0 : Int32)), .val (.double (FP.ddiv (FP.i2d (0 : Int32)) (FP.i2d d))), .second] [.double (FP.ddiv (FP.i2d (0 : Int32)) (FP.i2d d))]))
      refine g_dload W15 at_252 (pc' := 254) rfl rfl ?_
      refine g_dcmp W15 at_254 (pc' := 255) rfl rfl ?_
      rw [show (cmpValue (FP.dcmp (FP.ddiv (FP.i2d (0 : Int32)) (FP.i2d d)) (FP.ddiv (FP.i2d (0 : Int32)) (FP.i2d d))) .l) = (0 : Int32) from dcmpV_self (own_div (own_nz hd)) .l]
      refine g_if W15 at_255 (pcy := 262) (by decide) (pc' := 258) rfl (fun (h : ¬ (0 : Int32) = (0 : Int32)) => absurd h (by decide)) (fun _ => ?_)
      refine g_iconst W15 at_258 (pc' := 259) rfl (v := (1 : Int32)) (by decide) ?_
      refine g_goto W15 at_259 (pc' := 263) (by decide) ?_
      exact g_zreturn W15 (by decide) at_263 rfl (by decide) (by decide)
    · refine g_iload W11 at_192 (pc' := 194) rfl rfl ?_
      refine g_iconst W11 at_194 (pc' := 195) rfl (v := (1 : Int32)) (by decide) ?_
      refine g_iadd W11 at_195 (pc' := 196) rfl (v := (1 : Int32)) (by decide) ?_
      refine g_istore W11 at_196 (pc' := 198) rfl (ls' := #[.val (.int p0), .val (.int p1), .val (.int p2), .val (.int p3), .val (.int p4), .val (.int p5), .val (.int d), .val (.int (1 : Int32)), .val (.int r1), .val (.int r2), .val (.int r3), .val (.ref a8), .val (.int r1), .val (.int ret0), .val (.int rel), .val (.ref a10), .val (.int (1 : Int32)), .unset, .unset]) rfl ?_
      refine g_iload W11 at_198 (pc' := 200) rfl rfl ?_
      refine g_iconst W11 at_200 (pc' := 201) rfl (v := (2 : Int32)) (by decide) ?_
      refine g_icmp W11 at_201 (pcy := 217) (by decide) (pc' := 204) rfl (fun _ => ?_) (fun (h : ¬ (1 : Int32) < (2 : Int32)) => absurd h (by decide))
      refine g_iload W11 at_217 (pc' := 219) rfl rfl ?_
      refine g_iconst W11 at_219 (pc' := 220) rfl (v := (3 : Int32)) (by decide) ?_
      refine g_icmp W11 at_220 (pcy := 236) (by decide) (pc' := 223) rfl (fun _ => ?_) (fun (h : ¬ (1 : Int32) < (3 : Int32)) => absurd h (by decide))
      refine g_iload W11 at_236 (pc' := 238) rfl rfl ?_
      refine g_i2d W11 at_238 (pc' := 239) rfl rfl ?_
      refine g_iload W11 at_239 (pc' := 241) rfl rfl ?_
      refine g_i2d W11 at_241 (pc' := 242) rfl rfl ?_
      refine g_ddiv W11 at_242 (pc' := 243) rfl rfl (own_div (own_nz hd)) ?_
      refine g_dstore W11 at_243 (pc' := 245) rfl (ls' := #[.val (.int p0), .val (.int p1), .val (.int p2), .val (.int p3), .val (.int p4), .val (.int p5), .val (.int d), .val (.int (1 : Int32)), .val (.int r1), .val (.int r2), .val (.int r3), .val (.ref a8), .val (.int r1), .val (.int ret0), .val (.int rel), .val (.ref a10), .val (.int (1 : Int32)), .val (.double (FP.ddiv (FP.i2d (1 : Int32)) (FP.i2d d))), .second]) rfl ?_
      refine g_aload W11 at_245 (pc' := 247) rfl rfl rfl ?_
      refine g_iload W11 at_247 (pc' := 249) rfl rfl ?_
      refine g_callV W11 (argsL := [.int d]) (st := []) (wd_23 hw) (wd_24 hw) (wd_26 hw) (wd_25 hw) (wd_10 hw) (wd_27 hw) (by decide) (a := a10) H13f (i := 0) rfl (c_pa11 l Z a0 hw n0 a10 a8 ret0 rel r1 d hd c14 _ _ H13f) pd_2 rfl rfl rfl at_249 (pc' := 252) rfl (by decide) (Wn := 0) (Nat.le_of_eq rfl) (by decide) (kc' := 2) (ks' := 4) rfl rfl (by decide) (by decide) ?_
      intro T16 v16 W16 hp16
      obtain ⟨rfl, H16⟩ := hp16
      show Goes p e below _ (T16.setTop (mkF m 252 #[.val (.int p0), .val (.int p1), .val (.int p2), .val (.int p3), .val (.int p4), .val (.int p5), .val (.int d), .val (.int (1 : Int32)), .val (.int r1), .val (.int r2), .val (.int r3), .val (.ref a8), .val (.int r1), .val (.int ret0), .val (.int rel), .val (.ref a10), .val (.int (1 : Int32)), .val (.double (FP.ddiv (FP.i2d (1 : Int32)) (FP.i2d d))), .second] [.double (FP.ddiv (FP.i2d (1 : Int32)) (FP.i2d d))]))
      refine g_dload W16 at_252 (pc' := 254) rfl rfl ?_
      refine g_dcmp W16 at_254 (pc' := 255) rfl rfl ?_
      rw [show (cmpValue (FP.dcmp (FP.ddiv (FP.i2d (1 : Int32)) (FP.i2d d)) (FP.ddiv (FP.i2d (1 : Int32)) (FP.i2d d))) .l) = (0 : Int32) from dcmpV_self (own_div (own_nz hd)) .l]
      refine g_if W16 at_255 (pcy := 262) (by decide) (pc' := 258) rfl (fun (h : ¬ (0 : Int32) = (0 : Int32)) => absurd h (by decide)) (fun _ => ?_)
      refine g_iconst W16 at_258 (pc' := 259) rfl (v := (1 : Int32)) (by decide) ?_
      refine g_goto W16 at_259 (pc' := 263) (by decide) ?_
      exact g_zreturn W16 (by decide) at_263 rfl (by decide) (by decide)
  · rw [hn]
    obtain ⟨r1, r2, r3, hr1, hr2, hr3, z1, z2, z3, l1, l2⟩ := own_ranks p2 p3 p4
    refine g_istore W1 at_13 (pc' := 15) rfl (ls' := #[.val (.int p0), .val (.int p1), .val (.int p2), .val (.int p3), .val (.int p4), .val (.int p5), .val (.int d), .val (.int (2 : Int32)), .unset, .unset, .unset, .unset, .unset, .unset, .unset, .unset, .unset, .unset, .unset]) rfl ?_
    refine g_iconst W1 at_15 (pc' := 16) rfl (v := (1 : Int32)) (by decide) ?_
    refine g_iloadN W1 at_16 (pc' := 17) rfl rfl ?_
    refine g_ldcInt W1 (wd_5 hw) at_17 (pc' := 19) rfl ?_
    refine g_iand W1 at_19 (pc' := 20) rfl rfl ?_
    refine g_iadd W1 at_20 (pc' := 21) rfl rfl ?_
    rw [← hr1]
    refine g_istore W1 at_21 (pc' := 23) rfl (ls' := #[.val (.int p0), .val (.int p1), .val (.int p2), .val (.int p3), .val (.int p4), .val (.int p5), .val (.int d), .val (.int (2 : Int32)), .val (.int r1), .unset, .unset, .unset, .unset, .unset, .unset, .unset, .unset, .unset, .unset]) rfl ?_
    refine g_iload W1 at_23 (pc' := 25) rfl rfl ?_
    refine g_iconst W1 at_25 (pc' := 26) rfl (v := (1 : Int32)) (by decide) ?_
    refine g_iadd W1 at_26 (pc' := 27) rfl rfl ?_
    refine g_iloadN W1 at_27 (pc' := 28) rfl rfl ?_
    refine g_ldcInt W1 (wd_5 hw) at_28 (pc' := 30) rfl ?_
    refine g_iand W1 at_30 (pc' := 31) rfl rfl ?_
    refine g_iadd W1 at_31 (pc' := 32) rfl rfl ?_
    rw [← hr2]
    refine g_istore W1 at_32 (pc' := 34) rfl (ls' := #[.val (.int p0), .val (.int p1), .val (.int p2), .val (.int p3), .val (.int p4), .val (.int p5), .val (.int d), .val (.int (2 : Int32)), .val (.int r1), .val (.int r2), .unset, .unset, .unset, .unset, .unset, .unset, .unset, .unset, .unset]) rfl ?_
    refine g_iload W1 at_34 (pc' := 36) rfl rfl ?_
    refine g_iconst W1 at_36 (pc' := 37) rfl (v := (1 : Int32)) (by decide) ?_
    refine g_iadd W1 at_37 (pc' := 38) rfl rfl ?_
    refine g_iload W1 at_38 (pc' := 40) rfl rfl ?_
    refine g_ldcInt W1 (wd_5 hw) at_40 (pc' := 42) rfl ?_
    refine g_iand W1 at_42 (pc' := 43) rfl rfl ?_
    refine g_iadd W1 at_43 (pc' := 44) rfl rfl ?_
    rw [← hr3]
    refine g_istore W1 at_44 (pc' := 46) rfl (ls' := #[.val (.int p0), .val (.int p1), .val (.int p2), .val (.int p3), .val (.int p4), .val (.int p5), .val (.int d), .val (.int (2 : Int32)), .val (.int r1), .val (.int r2), .val (.int r3), .unset, .unset, .unset, .unset, .unset, .unset, .unset, .unset]) rfl ?_
    refine g_iload W1 at_46 (pc' := 48) rfl rfl ?_
    refine g_if W1 at_48 (pcy := 62) (by decide) (pc' := 51) rfl (fun _ => ?_) (fun (h : ¬ ¬ (2 : Int32) = (0 : Int32)) => absurd h (by decide))
    refine g_iload W1 at_62 (pc' := 64) rfl rfl ?_
    refine g_iconst W1 at_64 (pc' := 65) rfl (v := (1 : Int32)) (by decide) ?_
    refine g_icmp W1 at_65 (pcy := 85) (by decide) (pc' := 68) rfl (fun _ => ?_) (fun (h : ¬ ¬ (2 : Int32) = (1 : Int32)) => absurd h (by decide))
    refine g_iload W1 at_85 (pc' := 87) rfl rfl ?_
    refine g_iconst W1 at_87 (pc' := 88) rfl (v := (2 : Int32)) (by decide) ?_
    refine g_icmp W1 at_88 (pcy := 113) (by decide) (pc' := 91) rfl (fun (h : ¬ (2 : Int32) = (2 : Int32)) => absurd h (by decide)) (fun _ => ?_)
    refine g_iconst W1 at_91 (pc' := 92) rfl (v := (2 : Int32)) (by decide) ?_
    refine g_newarr (aty := .int) W1 (wd_6 hw) H1 (by decide) (vs := [.int 0, .int 0]) rfl (cap := 2) (Nat.le_of_eq rfl) (by decide) at_92 (pc' := 94) rfl (kc' := 1) (ks' := 2) rfl rfl (by decide) (by decide) ?_
    intro T17 a17 W17 H17
    replace H17 : Hp Z n0 T17.heap [(a17, ArC Z .int [.int 0, .int 0])] := H17
    refine g_dup W17 at_94 (pc' := 95) rfl rfl ?_
    refine g_iconst W17 at_95 (pc' := 96) rfl (v := (0 : Int32)) (by decide) ?_
    refine g_iload W17 at_96 (pc' := 98) rfl rfl ?_
    refine g_iastore W17 H17 (i := 0) rfl (jx := 0) (by decide) (by exact (by decide : 0 < 2)) at_98 (pc' := 99) rfl (L' := [(a17, ArC Z .int [.int r1, .int 0])]) rfl ?_
    intro T18 W18 H18
    refine g_dup W18 at_99 (pc' := 100) rfl rfl ?_
    refine g_iconst W18 at_100 (pc' := 101) rfl (v := (1 : Int32)) (by decide) ?_
    refine g_iload W18 at_101 (pc' := 103) rfl rfl ?_
    refine g_iastore W18 H18 (i := 0) rfl (jx := 1) (by decide) (by exact (by decide : 1 < 2)) at_103 (pc' := 104) rfl (L' := [(a17, ArC Z .int [.int r1, .int r2])]) rfl ?_
    intro T19 W19 H19
    refine g_astore W19 at_104 (pc' := 106) rfl rfl (ls' := #[.val (.int p0), .val (.int p1), .val (.int p2), .val (.int p3), .val (.int p4), .val (.int p5), .val (.int d), .val (.int (2 : Int32)), .val (.int r1), .val (.int r2), .val (.int r3), .val (.ref a17), .unset, .unset, .unset, .unset, .unset, .unset, .unset]) rfl ?_
    refine g_iload W19 at_106 (pc' := 108) rfl rfl ?_
    refine g_istore W19 at_108 (pc' := 110) rfl (ls' := #[.val (.int p0), .val (.int p1), .val (.int p2), .val (.int p3), .val (.int p4), .val (.int p5), .val (.int d), .val (.int (2 : Int32)), .val (.int r1), .val (.int r2), .val (.int r3), .val (.ref a17), .val (.int r2), .unset, .unset, .unset, .unset, .unset, .unset]) rfl ?_
    refine g_goto W19 at_110 (pc' := 137) (by decide) ?_
    refine g_iload W19 at_137 (pc' := 139) rfl rfl ?_
    refine g_iload W19 at_139 (pc' := 141) rfl rfl ?_
    refine g_ldcInt W19 (wd_7 hw) at_141 (pc' := 143) rfl ?_
    refine g_iand W19 at_143 (pc' := 144) rfl rfl ?_
    refine g_iadd W19 at_144 (pc' := 145) rfl rfl ?_
    generalize h_ret0 : (r2 + (p5 &&& (65535 : Int32))) = ret0
    refine g_istore W19 at_145 (pc' := 147) rfl (ls' := #[.val (.int p0), .val (.int p1), .val (.int p2), .val (.int p3), .val (.int p4), .val (.int p5), .val (.int d), .val (.int (2 : Int32)), .val (.int r1), .val (.int r2), .val (.int r3), .val (.ref a17), .val (.int r2), .val (.int ret0), .unset, .unset, .unset, .unset, .unset]) rfl ?_
    refine g_iload W19 at_147 (pc' := 149) rfl rfl ?_
    refine g_iload W19 at_149 (pc' := 151) rfl rfl ?_
    refine g_bipush W19 at_151 (pc' := 153) rfl (v := (16 : Int32)) (by decide) ?_
    refine g_iushr W19 at_153 (pc' := 154) rfl rfl ?_
    refine g_sipush W19 at_154 (pc' := 157) rfl (v := (255 : Int32)) (by decide) ?_
    refine g_iand W19 at_157 (pc' := 158) rfl rfl ?_
    refine g_iadd W19 at_158 (pc' := 159) rfl rfl ?_
    generalize h_rel : ((2 : Int32) + ((XT.ushr p5 (16 : Int32)) &&& (255 : Int32))) = rel
    refine g_istore W19 at_159 (pc' := 161) rfl (ls' := #[.val (.int p0), .val (.int p1), .val (.int p2), .val (.int p3), .val (.int p4), .val (.int p5), .val (.int d), .val (.int (2 : Int32)), .val (.int r1), .val (.int r2), .val (.int r3), .val (.ref a17), .val (.int r2), .val (.int ret0), .val (.int rel), .unset, .unset, .unset, .unset]) rfl ?_
    refine g_new W19 (wd_8 hw) (wd_9 hw) (wd_10 hw) (la_QueryEvaluation hw) (by decide) H19 at_161 (pc' := 164) rfl (kc' := 2) (ks' := 5) rfl rfl (by decide) (by decide) ?_
    intro T20 a20 W20 H20
    refine g_dup W20 at_164 (pc' := 165) rfl rfl ?_
    refine g_iload W20 at_165 (pc' := 167) rfl rfl ?_
    refine g_iload W20 at_167 (pc' := 169) rfl rfl ?_
    refine g_aload W20 at_169 (pc' := 171) rfl rfl rfl ?_
    refine g_callI W20 (argsL := [.int ret0, .int rel, .ref a17]) (st := [.ref a20]) rfl (wd_11 hw) (wd_12 hw) (wd_10 hw) (wd_13 hw) (by decide) (a := a20) (c_init l Z a0 hw n0 a20 a17 ret0 rel _ _ H20) pd_1 rfl rfl rfl at_171 (pc' := 174) rfl (by decide) (Wn := 1) (Nat.le_of_eq rfl) (by decide) (kc' := 2) (ks' := 5) rfl rfl (by decide) (by decide) ?_
    intro T21 v21 W21 hp21
    obtain ⟨rfl, H21⟩ := hp21
    show Goes p e below _ (T21.setTop (mkF m 174 #[.val (.int p0), .val (.int p1), .val (.int p2), .val (.int p3), .val (.int p4), .val (.int p5), .val (.int d), .val (.int (2 : Int32)), .val (.int r1), .val (.int r2), .val (.int r3), .val (.ref a17), .val (.int r2), .val (.int ret0), .val (.int rel), .unset, .unset, .unset, .unset] [.ref a20]))
    refine g_astore W21 at_174 (pc' := 176) rfl rfl (ls' := #[.val (.int p0), .val (.int p1), .val (.int p2), .val (.int p3), .val (.int p4), .val (.int p5), .val (.int d), .val (.int (2 : Int32)), .val (.int r1), .val (.int r2), .val (.int r3), .val (.ref a17), .val (.int r2), .val (.int ret0), .val (.int rel), .val (.ref a20), .unset, .unset, .unset]) rfl ?_
    refine g_iconst W21 at_176 (pc' := 177) rfl (v := (0 : Int32)) (by decide) ?_
    refine g_istore W21 at_177 (pc' := 179) rfl (ls' := #[.val (.int p0), .val (.int p1), .val (.int p2), .val (.int p3), .val (.int p4), .val (.int p5), .val (.int d), .val (.int (2 : Int32)), .val (.int r1), .val (.int r2), .val (.int r3), .val (.ref a17), .val (.int r2), .val (.int ret0), .val (.int rel), .val (.ref a20), .val (.int (0 : Int32)), .unset, .unset]) rfl ?_
    refine g_iload W21 at_179 (pc' := 181) rfl rfl ?_
    refine g_iconst W21 at_181 (pc' := 182) rfl (v := (1 : Int32)) (by decide) ?_
    refine g_icmp W21 at_182 (pcy := 198) (by decide) (pc' := 185) rfl (fun (h : (2 : Int32) < (1 : Int32)) => absurd h (by decide)) (fun _ => ?_)
    refine g_iload W21 at_185 (pc' := 187) rfl rfl ?_
    refine g_iload W21 at_187 (pc' := 189) rfl rfl ?_
    have H22f : Hp Z n0 T21.heap [(a17, ArC Z .int [.int r1, .int r2]), (a20, ObC Z "com/example/nearterm/nearterm/evaluation/QueryEvaluation" [("com/example/nearterm/nearterm/evaluation/QueryEvaluation", "retrieved", "I", .int ret0), ("com/example/nearterm/nearterm/evaluation/QueryEvaluation", "relevant", "I", .int rel), ("com/example/nearterm/nearterm/evaluation/QueryEvaluation", "relevantRanks", "[I", .ref a17)])] := H21.front (i := 1) rfl rfl
    have H23f : Hp Z n0 T21.heap [(a20, ObC Z "com/example/nearterm/nearterm/evaluation/QueryEvaluation" [("com/example/nearterm/nearterm/evaluation/QueryEvaluation", "retrieved", "I", .int ret0), ("com/example/nearterm/nearterm/evaluation/QueryEvaluation", "relevant", "I", .int rel), ("com/example/nearterm/nearterm/evaluation/QueryEvaluation", "relevantRanks", "[I", .ref a17)]), (a17, ArC Z .int [.int r1, .int r2])] := H22f.front (i := 1) rfl rfl
    refine g_icmp W21 at_189 (pcy := 198) (by decide) (pc' := 192) rfl (fun (c24 : d < r1) => ?_) (fun (c24 : ¬ d < r1) => ?_)
    · refine g_iload W21 at_198 (pc' := 200) rfl rfl ?_
      refine g_iconst W21 at_200 (pc' := 201) rfl (v := (2 : Int32)) (by decide) ?_
      refine g_icmp W21 at_201 (pcy := 217) (by decide) (pc' := 204) rfl (fun (h : (2 : Int32) < (2 : Int32)) => absurd h (by decide)) (fun _ => ?_)
      refine g_iload W21 at_204 (pc' := 206) rfl rfl ?_
      refine g_iload W21 at_206 (pc' := 208) rfl rfl ?_
      refine g_icmp W21 at_208 (pcy := 217) (by decide) (pc' := 211) rfl (fun (c25 : d < r2) => ?_) (fun (c25 : ¬ d < r2) => ?_)
      · refine g_iload W21 at_217 (pc' := 219) rfl rfl ?_
        refine g_iconst W21 at_219 (pc' := 220) rfl (v := (3 : Int32)) (by decide) ?_
        refine g_icmp W21 at_220 (pcy := 236) (by decide) (pc' := 223) rfl (fun _ => ?_) (fun (h : ¬ (2 : Int32) < (3 : Int32)) => absurd h (by decide))
        refine g_iload W21 at_236 (pc' := 238) rfl rfl ?_
        refine g_i2d W21 at_238 (pc' := 239) rfl rfl ?_
        refine g_iload W21 at_239 (pc' := 241) rfl rfl ?_
        refine g_i2d W21 at_241 (pc' := 242) rfl rfl ?_
        refine g_ddiv W21 at_242 (pc' := 243) rfl rfl (own_div (own_nz hd)) ?_
        refine g_dstore W21 at_243 (pc' := 245) rfl (ls' := #[.val (.int p0), .val (.int p1), .val (.int p2), .val (.int p3), .val (.int p4), .val (.int p5), .val (.int d), .val (.int (2 : Int32)), .val (.int r1), .val (.int r2), .val (.int r3), .val (.ref a17), .val (.int r2), .val (.int ret0), .val (.int rel), .val (.ref a20), .val (.int (0 : Int32)), .val (.double (FP.ddiv (FP.i2d (0 : Int32)) (FP.i2d d))), .second]) rfl ?_
        refine g_aload W21 at_245 (pc' := 247) rfl rfl rfl ?_
        refine g_iload W21 at_247 (pc' := 249) rfl rfl ?_
        refine g_callV W21 (argsL := [.int d]) (st := []) (wd_23 hw) (wd_24 hw) (wd_26 hw) (wd_25 hw) (wd_10 hw) (wd_27 hw) (by decide) (a := a20) H23f (i := 0) rfl (c_pa20 l Z a0 hw n0 a20 a17 ret0 rel r1 r2 d hd c24 _ _ H23f) pd_2 rfl rfl rfl at_249 (pc' := 252) rfl (by decide) (Wn := 0) (Nat.le_of_eq rfl) (by decide) (kc' := 2) (ks' := 5) rfl rfl (by decide) (by decide) ?_
        intro T26 v26 W26 hp26
        obtain ⟨rfl, H26⟩ := hp26
        show Goes p e below _ (T26.setTop (mkF m 252 #[.val (.int p0), .val (.int p1), .val (.int p2), .val (.int p3), .val (.int p4), .val (.int p5), .val (.int d), .val (.int (2 : Int32)), .val (.int r1), .val (.int r2), .val (.int r3), .val (.ref a17), .val (.int r2), .val (.int ret0), .val (.int rel), .val (.ref a20), .val (.int (0 : Int32)), .val (.double (FP.ddiv (FP.i2d (0 : Int32)) (FP.i2d d))), .second] [.double (FP.ddiv (FP.i2d (0 : Int32)) (FP.i2d d))]))
        refine g_dload W26 at_252 (pc' := 254) rfl rfl ?_
        refine g_dcmp W26 at_254 (pc' := 255) rfl rfl ?_
        rw [show (cmpValue (FP.dcmp (FP.ddiv (FP.i2d (0 : Int32)) (FP.i2d d)) (FP.ddiv (FP.i2d (0 : Int32)) (FP.i2d d))) .l) = (0 : Int32) from dcmpV_self (own_div (own_nz hd)) .l]
        refine g_if W26 at_255 (pcy := 262) (by decide) (pc' := 258) rfl (fun (h : ¬ (0 : Int32) = (0 : Int32)) => absurd h (by decide)) (fun _ => ?_)
        refine g_iconst W26 at_258 (pc' := 259) rfl (v := (1 : Int32)) (by decide) ?_
        refine g_goto W26 at_259 (pc' := 263) (by decide) ?_
        exact g_zreturn W26 (by decide) at_263 rfl (by decide) (by decide)
      · exact absurd (own_lt l1 c24) c25
    · refine g_iload W21 at_192 (pc' := 194) rfl rfl ?_
      refine g_iconst W21 at_194 (pc' := 195) rfl (v := (1 : Int32)) (by decide) ?_
      refine g_iadd W21 at_195 (pc' := 196) rfl (v := (1 : Int32)) (by decide) ?_
      refine g_istore W21 at_196 (pc' := 198) rfl (ls' := #[.val (.int p0), .val (.int p1), .val (.int p2), .val (.int p3), .val (.int p4), .val (.int p5), .val (.int d), .val (.int (2 : Int32)), .val (.int r1), .val (.int r2), .val (.int r3), .val (.ref a17), .val (.int r2), .val (.int ret0), .val (.int rel), .val (.ref a20), .val (.int (1 : Int32)), .unset, .unset]) rfl ?_
      refine g_iload W21 at_198 (pc' := 200) rfl rfl ?_
      refine g_iconst W21 at_200 (pc' := 201) rfl (v := (2 : Int32)) (by decide) ?_
      refine g_icmp W21 at_201 (pcy := 217) (by decide) (pc' := 204) rfl (fun (h : (2 : Int32) < (2 : Int32)) => absurd h (by decide)) (fun _ => ?_)
      refine g_iload W21 at_204 (pc' := 206) rfl rfl ?_
      refine g_iload W21 at_206 (pc' := 208) rfl rfl ?_
      refine g_icmp W21 at_208 (pcy := 217) (by decide) (pc' := 211) rfl (fun (c27 : d < r2) => ?_) (fun (c27 : ¬ d < r2) => ?_)
      · refine g_iload W21 at_217 (pc' := 219) rfl rfl ?_
        refine g_iconst W21 at_219 (pc' := 220) rfl (v := (3 : Int32)) (by decide) ?_
        refine g_icmp W21 at_220 (pcy := 236) (by decide) (pc' := 223) rfl (fun _ => ?_) (fun (h : ¬ (2 : Int32) < (3 : Int32)) => absurd h (by decide))
        refine g_iload W21 at_236 (pc' := 238) rfl rfl ?_
        refine g_i2d W21 at_238 (pc' := 239) rfl rfl ?_
        refine g_iload W21 at_239 (pc' := 241) rfl rfl ?_
        refine g_i2d W21 at_241 (pc' := 242) rfl rfl ?_
        refine g_ddiv W21 at_242 (pc' := 243) rfl rfl (own_div (own_nz hd)) ?_
        refine g_dstore W21 at_243 (pc' := 245) rfl (ls' := #[.val (.int p0), .val (.int p1), .val (.int p2), .val (.int p3), .val (.int p4), .val (.int p5), .val (.int d), .val (.int (2 : Int32)), .val (.int r1), .val (.int r2), .val (.int r3), .val (.ref a17), .val (.int r2), .val (.int ret0), .val (.int rel), .val (.ref a20), .val (.int (1 : Int32)), .val (.double (FP.ddiv (FP.i2d (1 : Int32)) (FP.i2d d))), .second]) rfl ?_
        refine g_aload W21 at_245 (pc' := 247) rfl rfl rfl ?_
        refine g_iload W21 at_247 (pc' := 249) rfl rfl ?_
        refine g_callV W21 (argsL := [.int d]) (st := []) (wd_23 hw) (wd_24 hw) (wd_26 hw) (wd_25 hw) (wd_10 hw) (wd_27 hw) (by decide) (a := a20) H23f (i := 0) rfl (c_pa21 l Z a0 hw n0 a20 a17 ret0 rel r1 r2 d hd c24 c27 _ _ H23f) pd_2 rfl rfl rfl at_249 (pc' := 252) rfl (by decide) (Wn := 0) (Nat.le_of_eq rfl) (by decide) (kc' := 2) (ks' := 5) rfl rfl (by decide) (by decide) ?_
        intro T28 v28 W28 hp28
        obtain ⟨rfl, H28⟩ := hp28
        show Goes p e below _ (T28.setTop (mkF m 252 #[.val (.int p0), .val (.int p1), .val (.int p2), .val (.int p3), .val (.int p4), .val (.int p5), .val (.int d), .val (.int (2 : Int32)), .val (.int r1), .val (.int r2), .val (.int r3), .val (.ref a17), .val (.int r2), .val (.int ret0), .val (.int rel), .val (.ref a20), .val (.int (1 : Int32)), .val (.double (FP.ddiv (FP.i2d (1 : Int32)) (FP.i2d d))), .second] [.double (FP.ddiv (FP.i2d (1 : Int32)) (FP.i2d d))]))
        refine g_dload W28 at_252 (pc' := 254) rfl rfl ?_
        refine g_dcmp W28 at_254 (pc' := 255) rfl rfl ?_
        rw [show (cmpValue (FP.dcmp (FP.ddiv (FP.i2d (1 : Int32)) (FP.i2d d)) (FP.ddiv (FP.i2d (1 : Int32)) (FP.i2d d))) .l) = (0 : Int32) from dcmpV_self (own_div (own_nz hd)) .l]
        refine g_if W28 at_255 (pcy := 262) (by decide) (pc' := 258) rfl (fun (h : ¬ (0 : Int32) = (0 : Int32)) => absurd h (by decide)) (fun _ => ?_)
        refine g_iconst W28 at_258 (pc' := 259) rfl (v := (1 : Int32)) (by decide) ?_
        refine g_goto W28 at_259 (pc' := 263) (by decide) ?_
        exact g_zreturn W28 (by decide) at_263 rfl (by decide) (by decide)
      · refine g_iload W21 at_211 (pc' := 213) rfl rfl ?_
        refine g_iconst W21 at_213 (pc' := 214) rfl (v := (1 : Int32)) (by decide) ?_
        refine g_iadd W21 at_214 (pc' := 215) rfl (v := (2 : Int32)) (by decide) ?_
        refine g_istore W21 at_215 (pc' := 217) rfl (ls' := #[.val (.int p0), .val (.int p1), .val (.int p2), .val (.int p3), .val (.int p4), .val (.int p5), .val (.int d), .val (.int (2 : Int32)), .val (.int r1), .val (.int r2), .val (.int r3), .val (.ref a17), .val (.int r2), .val (.int ret0), .val (.int rel), .val (.ref a20), .val (.int (2 : Int32)), .unset, .unset]) rfl ?_
        refine g_iload W21 at_217 (pc' := 219) rfl rfl ?_
        refine g_iconst W21 at_219 (pc' := 220) rfl (v := (3 : Int32)) (by decide) ?_
        refine g_icmp W21 at_220 (pcy := 236) (by decide) (pc' := 223) rfl (fun _ => ?_) (fun (h : ¬ (2 : Int32) < (3 : Int32)) => absurd h (by decide))
        refine g_iload W21 at_236 (pc' := 238) rfl rfl ?_
        refine g_i2d W21 at_238 (pc' := 239) rfl rfl ?_
        refine g_iload W21 at_239 (pc' := 241) rfl rfl ?_
        refine g_i2d W21 at_241 (pc' := 242) rfl rfl ?_
        refine g_ddiv W21 at_242 (pc' := 243) rfl rfl (own_div (own_nz hd)) ?_
        refine g_dstore W21 at_243 (pc' := 245) rfl (ls' := #[.val (.int p0), .val (.int p1), .val (.int p2), .val (.int p3), .val (.int p4), .val (.int p5), .val (.int d), .val (.int (2 : Int32)), .val (.int r1), .val (.int r2), .val (.int r3), .val (.ref a17), .val (.int r2), .val (.int ret0), .val (.int rel), .val (.ref a20), .val (.int (2 : Int32)), .val (.double (FP.ddiv (FP.i2d (2 : Int32)) (FP.i2d d))), .second]) rfl ?_
        refine g_aload W21 at_245 (pc' := 247) rfl rfl rfl ?_
        refine g_iload W21 at_247 (pc' := 249) rfl rfl ?_
        refine g_callV W21 (argsL := [.int d]) (st := []) (wd_23 hw) (wd_24 hw) (wd_26 hw) (wd_25 hw) (wd_10 hw) (wd_27 hw) (by decide) (a := a20) H23f (i := 0) rfl (c_pa22 l Z a0 hw n0 a20 a17 ret0 rel r1 r2 d hd c24 c27 _ _ H23f) pd_2 rfl rfl rfl at_249 (pc' := 252) rfl (by decide) (Wn := 0) (Nat.le_of_eq rfl) (by decide) (kc' := 2) (ks' := 5) rfl rfl (by decide) (by decide) ?_
        intro T29 v29 W29 hp29
        obtain ⟨rfl, H29⟩ := hp29
        show Goes p e below _ (T29.setTop (mkF m 252 #[.val (.int p0), .val (.int p1), .val (.int p2), .val (.int p3), .val (.int p4), .val (.int p5), .val (.int d), .val (.int (2 : Int32)), .val (.int r1), .val (.int r2), .val (.int r3), .val (.ref a17), .val (.int r2), .val (.int ret0), .val (.int rel), .val (.ref a20), .val (.int (2 : Int32)), .val (.double (FP.ddiv (FP.i2d (2 : Int32)) (FP.i2d d))), .second] [.double (FP.ddiv (FP.i2d (2 : Int32)) (FP.i2d d))]))
        refine g_dload W29 at_252 (pc' := 254) rfl rfl ?_
        refine g_dcmp W29 at_254 (pc' := 255) rfl rfl ?_
        rw [show (cmpValue (FP.dcmp (FP.ddiv (FP.i2d (2 : Int32)) (FP.i2d d)) (FP.ddiv (FP.i2d (2 : Int32)) (FP.i2d d))) .l) = (0 : Int32) from dcmpV_self (own_div (own_nz hd)) .l]
        refine g_if W29 at_255 (pcy := 262) (by decide) (pc' := 258) rfl (fun (h : ¬ (0 : Int32) = (0 : Int32)) => absurd h (by decide)) (fun _ => ?_)
        refine g_iconst W29 at_258 (pc' := 259) rfl (v := (1 : Int32)) (by decide) ?_
        refine g_goto W29 at_259 (pc' := 263) (by decide) ?_
        exact g_zreturn W29 (by decide) at_263 rfl (by decide) (by decide)
  · rw [hn]
    obtain ⟨r1, r2, r3, hr1, hr2, hr3, z1, z2, z3, l1, l2⟩ := own_ranks p2 p3 p4
    refine g_istore W1 at_13 (pc' := 15) rfl (ls' := #[.val (.int p0), .val (.int p1), .val (.int p2), .val (.int p3), .val (.int p4), .val (.int p5), .val (.int d), .val (.int (3 : Int32)), .unset, .unset, .unset, .unset, .unset, .unset, .unset, .unset, .unset, .unset, .unset]) rfl ?_
    refine g_iconst W1 at_15 (pc' := 16) rfl (v := (1 : Int32)) (by decide) ?_
    refine g_iloadN W1 at_16 (pc' := 17) rfl rfl ?_
    refine g_ldcInt W1 (wd_5 hw) at_17 (pc' := 19) rfl ?_
    refine g_iand W1 at_19 (pc' := 20) rfl rfl ?_
    refine g_iadd W1 at_20 (pc' := 21) rfl rfl ?_
    rw [← hr1]
    refine g_istore W1 at_21 (pc' := 23) rfl (ls' := #[.val (.int p0), .val (.int p1), .val (.int p2), .val (.int p3), .val (.int p4), .val (.int p5), .val (.int d), .val (.int (3 : Int32)), .val (.int r1), .unset, .unset, .unset, .unset, .unset, .unset, .unset, .unset, .unset, .unset]) rfl ?_
    refine g_iload W1 at_23 (pc' := 25) rfl rfl ?_
    refine g_iconst W1 at_25 (pc' := 26) rfl (v := (1 : Int32)) (by decide) ?_
    refine g_iadd W1 at_26 (pc' := 27) rfl rfl ?_
    refine g_iloadN W1 at_27 (pc' := 28) rfl rfl ?_
    refine g_ldcInt W1 (wd_5 hw) at_28 (pc' := 30) rfl ?_
    refine g_iand W1 at_30 (pc' := 31) rfl rfl ?_
    refine g_iadd W1 at_31 (pc' := 32) rfl rfl ?_
    rw [← hr2]
    refine g_istore W1 at_32 (pc' := 34) rfl (ls' := #[.val (.int p0), .val (.int p1), .val (.int p2), .val (.int p3), .val (.int p4), .val (.int p5), .val (.int d), .val (.int (3 : Int32)), .val (.int r1), .val (.int r2), .unset, .unset, .unset, .unset, .unset, .unset, .unset, .unset, .unset]) rfl ?_
    refine g_iload W1 at_34 (pc' := 36) rfl rfl ?_
    refine g_iconst W1 at_36 (pc' := 37) rfl (v := (1 : Int32)) (by decide) ?_
    refine g_iadd W1 at_37 (pc' := 38) rfl rfl ?_
    refine g_iload W1 at_38 (pc' := 40) rfl rfl ?_
    refine g_ldcInt W1 (wd_5 hw) at_40 (pc' := 42) rfl ?_
    refine g_iand W1 at_42 (pc' := 43) rfl rfl ?_
    refine g_iadd W1 at_43 (pc' := 44) rfl rfl ?_
    rw [← hr3]
    refine g_istore W1 at_44 (pc' := 46) rfl (ls' := #[.val (.int p0), .val (.int p1), .val (.int p2), .val (.int p3), .val (.int p4), .val (.int p5), .val (.int d), .val (.int (3 : Int32)), .val (.int r1), .val (.int r2), .val (.int r3), .unset, .unset, .unset, .unset, .unset, .unset, .unset, .unset]) rfl ?_
    refine g_iload W1 at_46 (pc' := 48) rfl rfl ?_
    refine g_if W1 at_48 (pcy := 62) (by decide) (pc' := 51) rfl (fun _ => ?_) (fun (h : ¬ ¬ (3 : Int32) = (0 : Int32)) => absurd h (by decide))
    refine g_iload W1 at_62 (pc' := 64) rfl rfl ?_
    refine g_iconst W1 at_64 (pc' := 65) rfl (v := (1 : Int32)) (by decide) ?_
    refine g_icmp W1 at_65 (pcy := 85) (by decide) (pc' := 68) rfl (fun _ => ?_) (fun (h : ¬ ¬ (3 : Int32) = (1 : Int32)) => absurd h (by decide))
    refine g_iload W1 at_85 (pc' := 87) rfl rfl ?_
    refine g_iconst W1 at_87 (pc' := 88) rfl (v := (2 : Int32)) (by decide) ?_
    refine g_icmp W1 at_88 (pcy := 113) (by decide) (pc' := 91) rfl (fun _ => ?_) (fun (h : ¬ ¬ (3 : Int32) = (2 : Int32)) => absurd h (by decide))
    refine g_iconst W1 at_113 (pc' := 114) rfl (v := (3 : Int32)) (by decide) ?_
    refine g_newarr (aty := .int) W1 (wd_6 hw) H1 (by decide) (vs := [.int 0, .int 0, .int 0]) rfl (cap := 3) (Nat.le_of_eq rfl) (by decide) at_114 (pc' := 116) rfl (kc' := 1) (ks' := 3) rfl rfl (by decide) (by decide) ?_
    intro T30 a30 W30 H30
    replace H30 : Hp Z n0 T30.heap [(a30, ArC Z .int [.int 0, .int 0, .int 0])] := H30
    refine g_dup W30 at_116 (pc' := 117) rfl rfl ?_
    refine g_iconst W30 at_117 (pc' := 118) rfl (v := (0 : Int32)) (by decide) ?_
    refine g_iload W30 at_118 (pc' := 120) rfl rfl ?_
    refine g_iastore W30 H30 (i := 0) rfl (jx := 0) (by decide) (by exact (by decide : 0 < 3)) at_120 (pc' := 121) rfl (L' := [(a30, ArC Z .int [.int r1, .int 0, .int 0])]) rfl ?_
    intro T31 W31 H31
    refine g_dup W31 at_121 (pc' := 122) rfl rfl ?_
    refine g_iconst W31 at_122 (pc' := 123) rfl (v := (1 : Int32)) (by decide) ?_
    refine g_iload W31 at_123 (pc' := 125) rfl rfl ?_
    refine g_iastore W31 H31 (i := 0) rfl (jx := 1) (by decide) (by exact (by decide : 1 < 3)) at_125 (pc' := 126) rfl (L' := [(a30, ArC Z .int [.int r1, .int r2, .int 0])]) rfl ?_
    intro T32 W32 H32
    refine g_dup W32 at_126 (pc' := 127) rfl rfl ?_
    refine g_iconst W32 at_127 (pc' := 128) rfl (v := (2 : Int32)) (by decide) ?_
    refine g_iload W32 at_128 (pc' := 130) rfl rfl ?_
    refine g_iastore W32 H32 (i := 0) rfl (jx := 2) (by decide) (by exact (by decide : 2 < 3)) at_130 (pc' := 131) rfl (L' := [(a30, ArC Z .int [.int r1, .int r2, .int r3])]) rfl ?_
    intro T33 W33 H33
    refine g_astore W33 at_131 (pc' := 133) rfl rfl (ls' := #[.val (.int p0), .val (.int p1), .val (.int p2), .val (.int p3), .val (.int p4), .val (.int p5), .val (.int d), .val (.int (3 : Int32)), .val (.int r1), .val (.int r2), .val (.int r3), .val (.ref a30), .unset, .unset, .unset, .unset, .unset, .unset, .unset]) rfl ?_
    refine g_iload W33 at_133 (pc' := 135) rfl rfl ?_
    refine g_istore W33 at_135 (pc' := 137) rfl (ls' := #[.val (.int p0), .val (.int p1), .val (.int p2), .val (.int p3), .val (.int p4), .val (.int p5), .val (.int d), .val (.int (3 : Int32)), .val (.int r1), .val (.int r2), .val (.int r3), .val (.ref a30), .val (.int r3), .unset, .unset, .unset, .unset, .unset, .unset]) rfl ?_
    refine g_iload W33 at_137 (pc' := 139) rfl rfl ?_
    refine g_iload W33 at_139 (pc' := 141) rfl rfl ?_
    refine g_ldcInt W33 (wd_7 hw) at_141 (pc' := 143) rfl ?_
    refine g_iand W33 at_143 (pc' := 144) rfl rfl ?_
    refine g_iadd W33 at_144 (pc' := 145) rfl rfl ?_
    generalize h_ret0 : (r3 + (p5 &&& (65535 : Int32))) = ret0
    refine g_istore W33 at_145 (pc' := 147) rfl (ls' := #[.val (.int p0), .val (.int p1), .val (.int p2), .val (.int p3), .val (.int p4), .val (.int p5), .val (.int d), .val (.int (3 : Int32)), .val (.int r1), .val (.int r2), .val (.int r3), .val (.ref a30), .val (.int r3), .val (.int ret0), .unset, .unset, .unset, .unset, .unset]) rfl ?_
    refine g_iload W33 at_147 (pc' := 149) rfl rfl ?_
    refine g_iload W33 at_149 (pc' := 151) rfl rfl ?_
    refine g_bipush W33 at_151 (pc' := 153) rfl (v := (16 : Int32)) (by decide) ?_
    refine g_iushr W33 at_153 (pc' := 154) rfl rfl ?_
    refine g_sipush W33 at_154 (pc' := 157) rfl (v := (255 : Int32)) (by decide) ?_
    refine g_iand W33 at_157 (pc' := 158) rfl rfl ?_
    refine g_iadd W33 at_158 (pc' := 159) rfl rfl ?_
    generalize h_rel : ((3 : Int32) + ((XT.ushr p5 (16 : Int32)) &&& (255 : Int32))) = rel
    refine g_istore W33 at_159 (pc' := 161) rfl (ls' := #[.val (.int p0), .val (.int p1), .val (.int p2), .val (.int p3), .val (.int p4), .val (.int p5), .val (.int d), .val (.int (3 : Int32)), .val (.int r1), .val (.int r2), .val (.int r3), .val (.ref a30), .val (.int r3), .val (.int ret0), .val (.int rel), .unset, .unset, .unset, .unset]) rfl ?_
    refine g_new W33 (wd_8 hw) (wd_9 hw) (wd_10 hw) (la_QueryEvaluation hw) (by decide) H33 at_161 (pc' := 164) rfl (kc' := 2) (ks' := 6) rfl rfl (by decide) (by decide) ?_
    intro T34 a34 W34 H34
    refine g_dup W34 at_164 (pc' := 165) rfl rfl ?_
    refine g_iload W34 at_165 (pc' := 167) rfl rfl ?_
    refine g_iload W34 at_167 (pc' := 169) rfl rfl ?_
    refine g_aload W34 at_169 (pc' := 171) rfl rfl rfl ?_
    refine g_callI W34 (argsL := [.int ret0, .int rel, .ref a30]) (st := [.ref a34]) rfl (wd_11 hw) (wd_12 hw) (wd_10 hw) (wd_13 hw) (by decide) (a := a34) (c_init l Z a0 hw n0 a34 a30 ret0 rel _ _ H34) pd_1 rfl rfl rfl at_171 (pc' := 174) rfl (by decide) (Wn := 1) (Nat.le_of_eq rfl) (by decide) (kc' := 2) (ks' := 6) rfl rfl (by decide) (by decide) ?_
    intro T35 v35 W35 hp35
    obtain ⟨rfl, H35⟩ := hp35
    show Goes p e below _ (T35.setTop (mkF m 174 #[.val (.int p0), .val (.int p1), .val (.int p2), .val (.int p3), .val (.int p4), .val (.int p5), .val (.int d), .val (.int (3 : Int32)), .val (.int r1), .val (.int r2), .val (.int r3), .val (.ref a30), .val (.int r3), .val (.int ret0), .val (.int rel), .unset, .unset, .unset, .unset] [.ref a34]))
    refine g_astore W35 at_174 (pc' := 176) rfl rfl (ls' := #[.val (.int p0), .val (.int p1), .val (.int p2), .val (.int p3), .val (.int p4), .val (.int p5), .val (.int d), .val (.int (3 : Int32)), .val (.int r1), .val (.int r2), .val (.int r3), .val (.ref a30), .val (.int r3), .val (.int ret0), .val (.int rel), .val (.ref a34), .unset, .unset, .unset]) rfl ?_
    refine g_iconst W35 at_176 (pc' := 177) rfl (v := (0 : Int32)) (by decide) ?_
    refine g_istore W35 at_177 (pc' := 179) rfl (ls' := #[.val (.int p0), .val (.int p1), .val (.int p2), .val (.int p3), .val (.int p4), .val (.int p5), .val (.int d), .val (.int (3 : Int32)), .val (.int r1), .val (.int r2), .val (.int r3), .val (.ref a30), .val (.int r3), .val (.int ret0), .val (.int rel), .val (.ref a34), .val (.int (0 : Int32)), .unset, .unset]) rfl ?_
    refine g_iload W35 at_179 (pc' := 181) rfl rfl ?_
    refine g_iconst W35 at_181 (pc' := 182) rfl (v := (1 : Int32)) (by decide) ?_
    refine g_icmp W35 at_182 (pcy := 198) (by decide) (pc' := 185) rfl (fun (h : (3 : Int32) < (1 : Int32)) => absurd h (by decide)) (fun _ => ?_)
    refine g_iload W35 at_185 (pc' := 187) rfl rfl ?_
    refine g_iload W35 at_187 (pc' := 189) rfl rfl ?_
    have H36f : Hp Z n0 T35.heap [(a30, ArC Z .int [.int r1, .int r2, .int r3]), (a34, ObC Z "com/example/nearterm/nearterm/evaluation/QueryEvaluation" [("com/example/nearterm/nearterm/evaluation/QueryEvaluation", "retrieved", "I", .int ret0), ("com/example/nearterm/nearterm/evaluation/QueryEvaluation", "relevant", "I", .int rel), ("com/example/nearterm/nearterm/evaluation/QueryEvaluation", "relevantRanks", "[I", .ref a30)])] := H35.front (i := 1) rfl rfl
    have H37f : Hp Z n0 T35.heap [(a34, ObC Z "com/example/nearterm/nearterm/evaluation/QueryEvaluation" [("com/example/nearterm/nearterm/evaluation/QueryEvaluation", "retrieved", "I", .int ret0), ("com/example/nearterm/nearterm/evaluation/QueryEvaluation", "relevant", "I", .int rel), ("com/example/nearterm/nearterm/evaluation/QueryEvaluation", "relevantRanks", "[I", .ref a30)]), (a30, ArC Z .int [.int r1, .int r2, .int r3])] := H36f.front (i := 1) rfl rfl
    refine g_icmp W35 at_189 (pcy := 198) (by decide) (pc' := 192) rfl (fun (c38 : d < r1) => ?_) (fun (c38 : ¬ d < r1) => ?_)
    · refine g_iload W35 at_198 (pc' := 200) rfl rfl ?_
      refine g_iconst W35 at_200 (pc' := 201) rfl (v := (2 : Int32)) (by decide) ?_
      refine g_icmp W35 at_201 (pcy := 217) (by decide) (pc' := 204) rfl (fun (h : (3 : Int32) < (2 : Int32)) => absurd h (by decide)) (fun _ => ?_)
      refine g_iload W35 at_204 (pc' := 206) rfl rfl ?_
      refine g_iload W35 at_206 (pc' := 208) rfl rfl ?_
      refine g_icmp W35 at_208 (pcy := 217) (by decide) (pc' := 211) rfl (fun (c39 : d < r2) => ?_) (fun (c39 : ¬ d < r2) => ?_)
      · refine g_iload W35 at_217 (pc' := 219) rfl rfl ?_
        refine g_iconst W35 at_219 (pc' := 220) rfl (v := (3 : Int32)) (by decide) ?_
        refine g_icmp W35 at_220 (pcy := 236) (by decide) (pc' := 223) rfl (fun (h : (3 : Int32) < (3 : Int32)) => absurd h (by decide)) (fun _ => ?_)
        refine g_iload W35 at_223 (pc' := 225) rfl rfl ?_
        refine g_iload W35 at_225 (pc' := 227) rfl rfl ?_
        refine g_icmp W35 at_227 (pcy := 236) (by decide) (pc' := 230) rfl (fun (c40 : d < r3) => ?_) (fun (c40 : ¬ d < r3) => ?_)
        · refine g_iload W35 at_236 (pc' := 238) rfl rfl ?_
          refine g_i2d W35 at_238 (pc' := 239) rfl rfl ?_
          refine g_iload W35 at_239 (pc' := 241) rfl rfl ?_
          refine g_i2d W35 at_241 (pc' := 242) rfl rfl ?_
          refine g_ddiv W35 at_242 (pc' := 243) rfl rfl (own_div (own_nz hd)) ?_
          refine g_dstore W35 at_243 (pc' := 245) rfl (ls' := #[.val (.int p0), .val (.int p1), .val (.int p2), .val (.int p3), .val (.int p4), .val (.int p5), .val (.int d), .val (.int (3 : Int32)), .val (.int r1), .val (.int r2), .val (.int r3), .val (.ref a30), .val (.int r3), .val (.int ret0), .val (.int rel), .val (.ref a34), .val (.int (0 : Int32)), .val (.double (FP.ddiv (FP.i2d (0 : Int32)) (FP.i2d d))), .second]) rfl ?_
          refine g_aload W35 at_245 (pc' := 247) rfl rfl rfl ?_
          refine g_iload W35 at_247 (pc' := 249) rfl rfl ?_
          refine g_callV W35 (argsL := [.int d]) (st := []) (wd_23 hw) (wd_24 hw) (wd_26 hw) (wd_25 hw) (wd_10 hw) (wd_27 hw) (by decide) (a := a34) H37f (i := 0) rfl (c_pa30 l Z a0 hw n0 a34 a30 ret0 rel r1 r2 r3 d hd c38 _ _ H37f) pd_2 rfl rfl rfl at_249 (pc' := 252) rfl (by decide) (Wn := 0) (Nat.le_of_eq rfl) (by decide) (kc' := 2) (ks' := 6) rfl rfl (by decide) (by decide) ?_
          intro T41 v41 W41 hp41
          obtain ⟨rfl, H41⟩ := hp41
          show Goes p e below _ (T41.setTop (mkF m 252 #[.val (.int p0), .val (.int p1), .val (.int p2), .val (.int p3), .val (.int p4), .val (.int p5), .val (.int d), .val (.int (3 : Int32)), .val (.int r1), .val (.int r2), .val (.int r3), .val (.ref a30), .val (.int r3), .val (.int ret0), .val (.int rel), .val (.ref a34), .val (.int (0 : Int32)), .val (.double (FP.ddiv (FP.i2d (0 : Int32)) (FP.i2d d))), .second] [.double (FP.ddiv (FP.i2d (0 : Int32)) (FP.i2d d))]))
          refine g_dload W41 at_252 (pc' := 254) rfl rfl ?_
          refine g_dcmp W41 at_254 (pc' := 255) rfl rfl ?_
          rw [show (cmpValue (FP.dcmp (FP.ddiv (FP.i2d (0 : Int32)) (FP.i2d d)) (FP.ddiv (FP.i2d (0 : Int32)) (FP.i2d d))) .l) = (0 : Int32) from dcmpV_self (own_div (own_nz hd)) .l]
          refine g_if W41 at_255 (pcy := 262) (by decide) (pc' := 258) rfl (fun (h : ¬ (0 : Int32) = (0 : Int32)) => absurd h (by decide)) (fun _ => ?_)
          refine g_iconst W41 at_258 (pc' := 259) rfl (v := (1 : Int32)) (by decide) ?_
          refine g_goto W41 at_259 (pc' := 263) (by decide) ?_
          exact g_zreturn W41 (by decide) at_263 rfl (by decide) (by decide)
        · exact absurd (own_lt l2 (own_lt l1 c38)) c40
      · exact absurd (own_lt l1 c38) c39
    · refine g_iload W35 at_192 (pc' := 194) rfl rfl ?_
      refine g_iconst W35 at_194 (pc' := 195) rfl (v := (1 : Int32)) (by decide) ?_
      refine g_iadd W35 at_195 (pc' := 196) rfl (v := (1 : Int32)) (by decide) ?_
      refine g_istore W35 at_196 (pc' := 198) rfl (ls' := #[.val (.int p0), .val (.int p1), .val (.int p2), .val (.int p3), .val (.int p4), .val (.int p5), .val (.int d), .val (.int (3 : Int32)), .val (.int r1), .val (.int r2), .val (.int r3), .val (.ref a30), .val (.int r3), .val (.int ret0), .val (.int rel), .val (.ref a34), .val (.int (1 : Int32)), .unset, .unset]) rfl ?_
      refine g_iload W35 at_198 (pc' := 200) rfl rfl ?_
      refine g_iconst W35 at_200 (pc' := 201) rfl (v := (2 : Int32)) (by decide) ?_
      refine g_icmp W35 at_201 (pcy := 217) (by decide) (pc' := 204) rfl (fun (h : (3 : Int32) < (2 : Int32)) => absurd h (by decide)) (fun _ => ?_)
      refine g_iload W35 at_204 (pc' := 206) rfl rfl ?_
      refine g_iload W35 at_206 (pc' := 208) rfl rfl ?_
      refine g_icmp W35 at_208 (pcy := 217) (by decide) (pc' := 211) rfl (fun (c42 : d < r2) => ?_) (fun (c42 : ¬ d < r2) => ?_)
      · refine g_iload W35 at_217 (pc' := 219) rfl rfl ?_
        refine g_iconst W35 at_219 (pc' := 220) rfl (v := (3 : Int32)) (by decide) ?_
        refine g_icmp W35 at_220 (pcy := 236) (by decide) (pc' := 223) rfl (fun (h : (3 : Int32) < (3 : Int32)) => absurd h (by decide)) (fun _ => ?_)
        refine g_iload W35 at_223 (pc' := 225) rfl rfl ?_
        refine g_iload W35 at_225 (pc' := 227) rfl rfl ?_
        refine g_icmp W35 at_227 (pcy := 236) (by decide) (pc' := 230) rfl (fun (c43 : d < r3) => ?_) (fun (c43 : ¬ d < r3) => ?_)
        · refine g_iload W35 at_236 (pc' := 238) rfl rfl ?_
          refine g_i2d W35 at_238 (pc' := 239) rfl rfl ?_
          refine g_iload W35 at_239 (pc' := 241) rfl rfl ?_
          refine g_i2d W35 at_241 (pc' := 242) rfl rfl ?_
          refine g_ddiv W35 at_242 (pc' := 243) rfl rfl (own_div (own_nz hd)) ?_
          refine g_dstore W35 at_243 (pc' := 245) rfl (ls' := #[.val (.int p0), .val (.int p1), .val (.int p2), .val (.int p3), .val (.int p4), .val (.int p5), .val (.int d), .val (.int (3 : Int32)), .val (.int r1), .val (.int r2), .val (.int r3), .val (.ref a30), .val (.int r3), .val (.int ret0), .val (.int rel), .val (.ref a34), .val (.int (1 : Int32)), .val (.double (FP.ddiv (FP.i2d (1 : Int32)) (FP.i2d d))), .second]) rfl ?_
          refine g_aload W35 at_245 (pc' := 247) rfl rfl rfl ?_
          refine g_iload W35 at_247 (pc' := 249) rfl rfl ?_
          refine g_callV W35 (argsL := [.int d]) (st := []) (wd_23 hw) (wd_24 hw) (wd_26 hw) (wd_25 hw) (wd_10 hw) (wd_27 hw) (by decide) (a := a34) H37f (i := 0) rfl (c_pa31 l Z a0 hw n0 a34 a30 ret0 rel r1 r2 r3 d hd c38 c42 _ _ H37f) pd_2 rfl rfl rfl at_249 (pc' := 252) rfl (by decide) (Wn := 0) (Nat.le_of_eq rfl) (by decide) (kc' := 2) (ks' := 6) rfl rfl (by decide) (by decide) ?_
          intro T44 v44 W44 hp44
          obtain ⟨rfl, H44⟩ := hp44
          show Goes p e below _ (T44.setTop (mkF m 252 #[.val (.int p0), .val (.int p1), .val (.int p2), .val (.int p3), .val (.int p4), .val (.int p5), .val (.int d), .val (.int (3 : Int32)), .val (.int r1), .val (.int r2), .val (.int r3), .val (.ref a30), .val (.int r3), .val (.int ret0), .val (.int rel), .val (.ref a34), .val (.int (1 : Int32)), .val (.double (FP.ddiv (FP.i2d (1 : Int32)) (FP.i2d d))), .second] [.double (FP.ddiv (FP.i2d (1 : Int32)) (FP.i2d d))]))
          refine g_dload W44 at_252 (pc' := 254) rfl rfl ?_
          refine g_dcmp W44 at_254 (pc' := 255) rfl rfl ?_
          rw [show (cmpValue (FP.dcmp (FP.ddiv (FP.i2d (1 : Int32)) (FP.i2d d)) (FP.ddiv (FP.i2d (1 : Int32)) (FP.i2d d))) .l) = (0 : Int32) from dcmpV_self (own_div (own_nz hd)) .l]
          refine g_if W44 at_255 (pcy := 262) (by decide) (pc' := 258) rfl (fun (h : ¬ (0 : Int32) = (0 : Int32)) => absurd h (by decide)) (fun _ => ?_)
          refine g_iconst W44 at_258 (pc' := 259) rfl (v := (1 : Int32)) (by decide) ?_
          refine g_goto W44 at_259 (pc' := 263) (by decide) ?_
          exact g_zreturn W44 (by decide) at_263 rfl (by decide) (by decide)
        · exact absurd (own_lt l2 c42) c43
      · refine g_iload W35 at_211 (pc' := 213) rfl rfl ?_
        refine g_iconst W35 at_213 (pc' := 214) rfl (v := (1 : Int32)) (by decide) ?_
        refine g_iadd W35 at_214 (pc' := 215) rfl (v := (2 : Int32)) (by decide) ?_
        refine g_istore W35 at_215 (pc' := 217) rfl (ls' := #[.val (.int p0), .val (.int p1), .val (.int p2), .val (.int p3), .val (.int p4), .val (.int p5), .val (.int d), .val (.int (3 : Int32)), .val (.int r1), .val (.int r2), .val (.int r3), .val (.ref a30), .val (.int r3), .val (.int ret0), .val (.int rel), .val (.ref a34), .val (.int (2 : Int32)), .unset, .unset]) rfl ?_
        refine g_iload W35 at_217 (pc' := 219) rfl rfl ?_
        refine g_iconst W35 at_219 (pc' := 220) rfl (v := (3 : Int32)) (by decide) ?_
        refine g_icmp W35 at_220 (pcy := 236) (by decide) (pc' := 223) rfl (fun (h : (3 : Int32) < (3 : Int32)) => absurd h (by decide)) (fun _ => ?_)
        refine g_iload W35 at_223 (pc' := 225) rfl rfl ?_
        refine g_iload W35 at_225 (pc' := 227) rfl rfl ?_
        refine g_icmp W35 at_227 (pcy := 236) (by decide) (pc' := 230) rfl (fun (c45 : d < r3) => ?_) (fun (c45 : ¬ d < r3) => ?_)
        · refine g_iload W35 at_236 (pc' := 238) rfl rfl ?_
          refine g_i2d W35 at_238 (pc' := 239) rfl rfl ?_
          refine g_iload W35 at_239 (pc' := 241) rfl rfl ?_
          refine g_i2d W35 at_241 (pc' := 242) rfl rfl ?_
          refine g_ddiv W35 at_242 (pc' := 243) rfl rfl (own_div (own_nz hd)) ?_
          refine g_dstore W35 at_243 (pc' := 245) rfl (ls' := #[.val (.int p0), .val (.int p1), .val (.int p2), .val (.int p3), .val (.int p4), .val (.int p5), .val (.int d), .val (.int (3 : Int32)), .val (.int r1), .val (.int r2), .val (.int r3), .val (.ref a30), .val (.int r3), .val (.int ret0), .val (.int rel), .val (.ref a34), .val (.int (2 : Int32)), .val (.double (FP.ddiv (FP.i2d (2 : Int32)) (FP.i2d d))), .second]) rfl ?_
          refine g_aload W35 at_245 (pc' := 247) rfl rfl rfl ?_
          refine g_iload W35 at_247 (pc' := 249) rfl rfl ?_
          refine g_callV W35 (argsL := [.int d]) (st := []) (wd_23 hw) (wd_24 hw) (wd_26 hw) (wd_25 hw) (wd_10 hw) (wd_27 hw) (by decide) (a := a34) H37f (i := 0) rfl (c_pa32 l Z a0 hw n0 a34 a30 ret0 rel r1 r2 r3 d hd c38 c42 c45 _ _ H37f) pd_2 rfl rfl rfl at_249 (pc' := 252) rfl (by decide) (Wn := 0) (Nat.le_of_eq rfl) (by decide) (kc' := 2) (ks' := 6) rfl rfl (by decide) (by decide) ?_
          intro T46 v46 W46 hp46
          obtain ⟨rfl, H46⟩ := hp46
          show Goes p e below _ (T46.setTop (mkF m 252 #[.val (.int p0), .val (.int p1), .val (.int p2), .val (.int p3), .val (.int p4), .val (.int p5), .val (.int d), .val (.int (3 : Int32)), .val (.int r1), .val (.int r2), .val (.int r3), .val (.ref a30), .val (.int r3), .val (.int ret0), .val (.int rel), .val (.ref a34), .val (.int (2 : Int32)), .val (.double (FP.ddiv (FP.i2d (2 : Int32)) (FP.i2d d))), .second] [.double (FP.ddiv (FP.i2d (2 : Int32)) (FP.i2d d))]))
          refine g_dload W46 at_252 (pc' := 254) rfl rfl ?_
          refine g_dcmp W46 at_254 (pc' := 255) rfl rfl ?_
          rw [show (cmpValue (FP.dcmp (FP.ddiv (FP.i2d (2 : Int32)) (FP.i2d d)) (FP.ddiv (FP.i2d (2 : Int32)) (FP.i2d d))) .l) = (0 : Int32) from dcmpV_self (own_div (own_nz hd)) .l]
          refine g_if W46 at_255 (pcy := 262) (by decide) (pc' := 258) rfl (fun (h : ¬ (0 : Int32) = (0 : Int32)) => absurd h (by decide)) (fun _ => ?_)
          refine g_iconst W46 at_258 (pc' := 259) rfl (v := (1 : Int32)) (by decide) ?_
          refine g_goto W46 at_259 (pc' := 263) (by decide) ?_
          exact g_zreturn W46 (by decide) at_263 rfl (by decide) (by decide)
        · refine g_iload W35 at_230 (pc' := 232) rfl rfl ?_
          refine g_iconst W35 at_232 (pc' := 233) rfl (v := (1 : Int32)) (by decide) ?_
          refine g_iadd W35 at_233 (pc' := 234) rfl (v := (3 : Int32)) (by decide) ?_
          refine g_istore W35 at_234 (pc' := 236) rfl (ls' := #[.val (.int p0), .val (.int p1), .val (.int p2), .val (.int p3), .val (.int p4), .val (.int p5), .val (.int d), .val (.int (3 : Int32)), .val (.int r1), .val (.int r2), .val (.int r3), .val (.ref a30), .val (.int r3), .val (.int ret0), .val (.int rel), .val (.ref a34), .val (.int (3 : Int32)), .unset, .unset]) rfl ?_
          refine g_iload W35 at_236 (pc' := 238) rfl rfl ?_
          refine g_i2d W35 at_238 (pc' := 239) rfl rfl ?_
          refine g_iload W35 at_239 (pc' := 241) rfl rfl ?_
          refine g_i2d W35 at_241 (pc' := 242) rfl rfl ?_
          refine g_ddiv W35 at_242 (pc' := 243) rfl rfl (own_div (own_nz hd)) ?_
          refine g_dstore W35 at_243 (pc' := 245) rfl (ls' := #[.val (.int p0), .val (.int p1), .val (.int p2), .val (.int p3), .val (.int p4), .val (.int p5), .val (.int d), .val (.int (3 : Int32)), .val (.int r1), .val (.int r2), .val (.int r3), .val (.ref a30), .val (.int r3), .val (.int ret0), .val (.int rel), .val (.ref a34), .val (.int (3 : Int32)), .val (.double (FP.ddiv (FP.i2d (3 : Int32)) (FP.i2d d))), .second]) rfl ?_
          refine g_aload W35 at_245 (pc' := 247) rfl rfl rfl ?_
          refine g_iload W35 at_247 (pc' := 249) rfl rfl ?_
          refine g_callV W35 (argsL := [.int d]) (st := []) (wd_23 hw) (wd_24 hw) (wd_26 hw) (wd_25 hw) (wd_10 hw) (wd_27 hw) (by decide) (a := a34) H37f (i := 0) rfl (c_pa33 l Z a0 hw n0 a34 a30 ret0 rel r1 r2 r3 d hd c38 c42 c45 _ _ H37f) pd_2 rfl rfl rfl at_249 (pc' := 252) rfl (by decide) (Wn := 0) (Nat.le_of_eq rfl) (by decide) (kc' := 2) (ks' := 6) rfl rfl (by decide) (by decide) ?_
          intro T47 v47 W47 hp47
          obtain ⟨rfl, H47⟩ := hp47
          show Goes p e below _ (T47.setTop (mkF m 252 #[.val (.int p0), .val (.int p1), .val (.int p2), .val (.int p3), .val (.int p4), .val (.int p5), .val (.int d), .val (.int (3 : Int32)), .val (.int r1), .val (.int r2), .val (.int r3), .val (.ref a30), .val (.int r3), .val (.int ret0), .val (.int rel), .val (.ref a34), .val (.int (3 : Int32)), .val (.double (FP.ddiv (FP.i2d (3 : Int32)) (FP.i2d d))), .second] [.double (FP.ddiv (FP.i2d (3 : Int32)) (FP.i2d d))]))
          refine g_dload W47 at_252 (pc' := 254) rfl rfl ?_
          refine g_dcmp W47 at_254 (pc' := 255) rfl rfl ?_
          rw [show (cmpValue (FP.dcmp (FP.ddiv (FP.i2d (3 : Int32)) (FP.i2d d)) (FP.ddiv (FP.i2d (3 : Int32)) (FP.i2d d))) .l) = (0 : Int32) from dcmpV_self (own_div (own_nz hd)) .l]
          refine g_if W47 at_255 (pcy := 262) (by decide) (pc' := 258) rfl (fun (h : ¬ (0 : Int32) = (0 : Int32)) => absurd h (by decide)) (fun _ => ?_)
          refine g_iconst W47 at_258 (pc' := 259) rfl (v := (1 : Int32)) (by decide) ?_
          refine g_goto W47 at_259 (pc' := 263) (by decide) ?_
          exact g_zreturn W47 (by decide) at_263 rfl (by decide) (by decide)
set_option maxRecDepth 65536 in
set_option maxHeartbeats 40000000 in
theorem comes_1 {Post : Tables → Env → Array Value → State → Outcome → State → Prop} (hpost : ∀ tb e args s v u, (limb_1_1.after args s (.returned v) u = true ∧ limb_1_2.after args s (.returned v) u = true ∧ True) → FrameEnd s (.returned v) u (Jvm.fieldLocs frame_1_writes args s ++ Jvm.arrayLocs frame_1_arrays args s ++ Jvm.staticLocs frame_1_statics s) 16 128 → Post tb e args s (.returned v) u) :
    ArmFor flags0 classFile x code maxLocals ret World_1 tables_1 room_1 Calls_1 rest_1 Pre_1 Post := by
  intro l hfl _ _ p e ha hc hk s m args below hf hA hF happ hP
  obtain ⟨hcalls, hrest, hpre⟩ := hP
  obtain ⟨-, -, -, hnamed, -, -, -, hat⟩ := (Spec.applies_iff hf).mp happ
  obtain ⟨hg, hn⟩ := and_e (Cond.before_iff.mp (show (Jvm.Cond.and given_1 narrow_1).before args s = true from hpre))
  obtain ⟨hcount, hg0⟩ := and_e hg
  obtain ⟨ha0, hg1⟩ := and_e hg0
  obtain ⟨ha1, hg2⟩ := and_e hg1
  obtain ⟨ha2, hg3⟩ := and_e hg2
  obtain ⟨ha3, hg4⟩ := and_e hg3
  obtain ⟨ha4, hg5⟩ := and_e hg4
  obtain ⟨w0, w1, w2, w3, w4, w5, rfl⟩ : ∃ w0 w1 w2 w3 w4 w5 : Value, args = #[w0, w1, w2, w3, w4, w5] := by
    have hs : args.size = 6 := by simpa [Cond.value, given_1] using hcount
    obtain ⟨L⟩ := args
    match L, hs with
    | [w0, w1, w2, w3, w4, w5], _ => exact ⟨w0, w1, w2, w3, w4, w5, rfl⟩
  have hw := fun d (hd : d ∈ tables_1) => atoms_spec (ws := Jvm.Cond.code x code maxLocals ret :: tables_1) hat d (List.mem_cons_of_mem _ hd)
  obtain ⟨p0, e0⟩ := is_v ha0
  obtain rfl : w0 = (.int p0) := Option.some.inj e0
  obtain ⟨p1, e1⟩ := is_v ha1
  obtain rfl : w1 = (.int p1) := Option.some.inj e1
  obtain ⟨p2, e2⟩ := is_v ha2
  obtain rfl : w2 = (.int p2) := Option.some.inj e2
  obtain ⟨p3, e3⟩ := is_v ha3
  obtain rfl : w3 = (.int p3) := Option.some.inj e3
  obtain ⟨p4, e4⟩ := is_v ha4
  obtain rfl : w4 = (.int p4) := Option.some.inj e4
  obtain ⟨p5, e5⟩ := is_v hg5
  obtain rfl : w5 = (.int p5) := Option.some.inj e5
  obtain ⟨n, o, h1, h2, h3, _, L, rfl, ⟨N, rfl⟩, hq⟩ := law_con l s _ hw s.heap.size p0 p1 p2 p3 p4 p5 s.heap (Hp.nil Bs.start) p e ha hc hk s m _ below hf ((Spec.applies_iff_loose hf).mp happ).1 ⟨rfl, State.Warmed39.refl s, rfl⟩ trivial
  refine ⟨n, _, h1, h2, h3, hpost _ _ _ _ _ _ ⟨Cond.after_iff.mpr rfl, Cond.after_iff.mpr (eq_i res_at (Term.int_eval (1)) rfl), trivial⟩ ⟨hq.1, hq.2.1, (hq.2.2.sift fun y hy => Or.inr (N y hy)).mono (by decide) (by decide)⟩⟩
theorem main_1_1 : Claimed_1_1 := comes_1 fun _ _ _ _ _ _ h hF => ⟨h.1, hF⟩
theorem main_1_2 : Claimed_1_2 := comes_1 fun _ _ _ _ _ _ h hF => ⟨h.2.1, hF⟩
end Jvm.Pilot.@@N@@
namespace Jvm.Pilot.@@N@@
open Jvm Jvm.ClassFile Sem Op Lib Jvm.Free Jvm.Stand Jvm.Pilot.@@N@@.Jvm.D
/-! MADE BY PROGRAM (witnessworld.py) out of the Statement's table words and the real class files: 10 classes; the members and pool entries that the words name. The judged class is class 1, her method 1. -/
namespace start1
open Jvm.ClassFile
def u (s : String) : CpInfo := .utf8 (stringToUtf16 s)
/-- a pool by its gaps: so many unusable entries, then the entry; so many at the end -/
def gap : Nat → List CpInfo → List CpInfo
  | 0, r => r
  | n + 1, r => .unusable :: gap n r
def poolList (es : List (Nat × CpInfo)) (last : Nat) : List CpInfo := es.foldr (fun e r => gap e.1 (e.2 :: r)) (gap last [])
def pool (es : List (Nat × CpInfo)) (last : Nat) : Array CpInfo := ⟨poolList es last⟩
def fileOf (pool : Array CpInfo) (this : Nat) (attrs : Array Attribute := #[]) (ms : Array MethodInfo := #[]) (fl : Nat := 33) (sup : Nat := 0) (ifs : Array Nat := #[]) (fds : Array FieldInfo := #[]) : ClassFile where
  minorVersion := 0
  majorVersion := 65
  constantPool := pool
  accessFlags := fl
  thisClass := this
  superClass := sup
  interfaces := ifs
  fields := fds
  methods := ms
  attributes := attrs
def plain (name : String) (sup : Option ClassId) : Class where
  name := name
  kind := .ordinary
  loader := none
  accessFlags := 33
  super := sup
  interfaces := #[]
  cf := none
  fields := #[]
  methods := #[]
  instanceTypes := #[]
  staticTypes := #[]
  resolved := #[]
  callSites := []
  init := .initialized
  statics := none
  mirror := none

def pool0 : Array CpInfo := pool [(5, u "<init>"), (0, u "()V"), (1, .class_ 10), (1, u "java/lang/Object")] 113

def k0c0 : Code := { maxStack := 0, maxLocals := 1, code := object_method_1_code, exceptionTable := #[], attributes := #[] }
def k0m0 : Method := { name := "<init>", desc := "()V", sig := { parameters := [], returnType := none }, accessFlags := 1, code := some k0c0 }
/-- java/lang/Object -/
def k0 : Class := { plain "java/lang/Object" none with
  accessFlags := 33
  interfaces := #[]
  cf := some (fileOf pool0 8 #[] #[{ accessFlags := 1, nameIndex := 5, descriptorIndex := 6, attributes := #[] }] 33 0 #[] #[])
  fields := #[]
  methods := #[k0m0]
  instanceTypes := #[]
  staticTypes := #[]
  resolved := Array.replicate 124 none
  statics := none }

def pool1 : Array CpInfo := pool [(2, .class_ 4), (1, u "java/lang/Object"), (0, u "<init>"), (0, u "()V"), (0, .integer 2147483647), (0, .methodref 9 10), (0, .class_ 11), (0, .nameAndType 12 13), (0, u "java/lang/Math"), (0, u "max"), (0, u "(II)I"), (0, .integer 536870911), (0, .integer 65535), (0, .class_ 17), (0, u "com/example/nearterm/nearterm/evaluation/QueryEvaluation"), (0, .methodref 16 19), (0, .nameAndType 5 20), (0, u "(II[I)V"), (0, .methodref 16 22), (0, .nameAndType 23 24), (0, u "precisionAt"), (0, u "(I)D"), (0, .class_ 26), (0, u "com/example/nearterm/nearterm/evaluation/QueryEvaluationPrecisionAtPinLaw"), (2, u "law"), (0, u "(IIIIII)Z")] 5

def k1m0 : Method := { name := "<init>", desc := "()V", sig := { parameters := [], returnType := none }, accessFlags := 1, code := none }
def k1c1 : Code := { maxStack := 5, maxLocals := 19, code := code, exceptionTable := #[], attributes := #[] }
def k1m1 : Method := { name := "law", desc := "(IIIIII)Z", sig := { parameters := [.int, .int, .int, .int, .int, .int], returnType := some .boolean }, accessFlags := 9, code := some k1c1 }
/-- com/example/nearterm/nearterm/evaluation/QueryEvaluationPrecisionAtPinLaw -/
def k1 : Class := { plain "com/example/nearterm/nearterm/evaluation/QueryEvaluationPrecisionAtPinLaw" (some 0) with
  accessFlags := 49
  interfaces := #[]
  cf := some (fileOf pool1 25 #[] #[{ accessFlags := 1, nameIndex := 5, descriptorIndex := 6, attributes := #[] }, { accessFlags := 9, nameIndex := 29, descriptorIndex := 30, attributes := #[] }] 49 2 #[] #[])
  fields := #[]
  methods := #[k1m0, k1m1]
  instanceTypes := #[]
  staticTypes := #[]
  resolved := Array.replicate 36 none
  statics := none }

def pool2 : Array CpInfo := pool [(1, .class_ 2), (0, u "java/lang/Math"), (1, .class_ 6), (1, u "java/lang/Object"), (0, u "<init>"), (0, u "()V"), (89, .class_ 100), (1, u "java/lang/Math$RandomNumberGeneratorHolder"), (71, u "negativeZeroFloatBits"), (0, u "J"), (2, u "negativeZeroDoubleBits"), (21, u "max"), (46, u "$assertionsDisabled"), (0, u "Z"), (88, u "(II)I"), (2, u "twoToTheDoubleScaleDown"), (0, u "D"), (4, u "twoToTheDoubleScaleUp"), (9, u "E"), (3, u "PI"), (2, u "TAU"), (2, u "DEGREES_TO_RADIANS"), (0, u "RADIANS_TO_DEGREES")] 94

def k2m0 : Method := { name := "<init>", desc := "()V", sig := { parameters := [], returnType := none }, accessFlags := 2, code := none }
def k2c1 : Code := { maxStack := 2, maxLocals := 2, code := jdk_29_method_65_code, exceptionTable := #[], attributes := #[] }
def k2m1 : Method := { name := "max", desc := "(II)I", sig := { parameters := [.int, .int], returnType := some .int }, accessFlags := 9, code := some k2c1 }
/-- java/lang/Math -/
def k2 : Class := { plain "java/lang/Math" (some 0) with
  accessFlags := 49
  interfaces := #[]
  cf := some (fileOf pool2 1 #[.nestMembers #[98]] #[{ accessFlags := 2, nameIndex := 7, descriptorIndex := 8, attributes := #[] }, { accessFlags := 9, nameIndex := 198, descriptorIndex := 335, attributes := #[] }] 49 4 #[] #[{ accessFlags := 25, nameIndex := 354, descriptorIndex := 339, attributes := #[] }, { accessFlags := 25, nameIndex := 358, descriptorIndex := 339, attributes := #[] }, { accessFlags := 25, nameIndex := 361, descriptorIndex := 339, attributes := #[] }, { accessFlags := 26, nameIndex := 364, descriptorIndex := 339, attributes := #[] }, { accessFlags := 26, nameIndex := 365, descriptorIndex := 339, attributes := #[] }, { accessFlags := 26, nameIndex := 172, descriptorIndex := 173, attributes := #[] }, { accessFlags := 26, nameIndex := 176, descriptorIndex := 173, attributes := #[] }, { accessFlags := 8, nameIndex := 344, descriptorIndex := 339, attributes := #[] }, { accessFlags := 8, nameIndex := 338, descriptorIndex := 339, attributes := #[] }, { accessFlags := 4120, nameIndex := 245, descriptorIndex := 246, attributes := #[] }])
  fields := #[{ name := "E", type := .double, accessFlags := 25, slot := 0, constantValue := 0 }, { name := "PI", type := .double, accessFlags := 25, slot := 1, constantValue := 0 }, { name := "TAU", type := .double, accessFlags := 25, slot := 2, constantValue := 0 }, { name := "DEGREES_TO_RADIANS", type := .double, accessFlags := 26, slot := 3, constantValue := 0 }, { name := "RADIANS_TO_DEGREES", type := .double, accessFlags := 26, slot := 4, constantValue := 0 }, { name := "negativeZeroFloatBits", type := .long, accessFlags := 26, slot := 5, constantValue := 0 }, { name := "negativeZeroDoubleBits", type := .long, accessFlags := 26, slot := 6, constantValue := 0 }, { name := "twoToTheDoubleScaleUp", type := .double, accessFlags := 8, slot := 7, constantValue := 0 }, { name := "twoToTheDoubleScaleDown", type := .double, accessFlags := 8, slot := 8, constantValue := 0 }, { name := "$assertionsDisabled", type := .boolean, accessFlags := 4120, slot := 9, constantValue := 0 }]
  methods := #[k2m0, k2m1]
  instanceTypes := #[]
  staticTypes := #[.double, .double, .double, .double, .double, .long, .long, .double, .double, .boolean]
  resolved := Array.replicate 460 none
  statics := none }

def pool3 : Array CpInfo := pool [(1, .methodref 2 3), (0, .class_ 4), (0, .nameAndType 5 6), (0, u "java/lang/Object"), (0, u "<init>"), (0, u "()V"), (0, .fieldref 8 9), (0, .class_ 10), (0, .nameAndType 11 12), (0, u "com/example/nearterm/nearterm/evaluation/QueryEvaluation"), (0, u "retrieved"), (0, u "I"), (0, .fieldref 8 14), (0, .nameAndType 15 12), (0, u "relevant"), (0, .fieldref 8 17), (0, .nameAndType 18 19), (0, u "relevantRanks"), (0, u "[I"), (3, u "(I)D"), (11, u "precisionAt"), (15, u "TENTHS"), (2, u "(II[I)V")] 28

def k3c0 : Code := { maxStack := 2, maxLocals := 4, code := prog_31_method_1_code, exceptionTable := #[], attributes := #[] }
def k3m0 : Method := { name := "<init>", desc := "(II[I)V", sig := { parameters := [.int, .int, (.array .int)], returnType := none }, accessFlags := 0, code := some k3c0 }
def k3c1 : Code := { maxStack := 4, maxLocals := 3, code := prog_31_method_6_code, exceptionTable := #[], attributes := #[] }
def k3m1 : Method := { name := "precisionAt", desc := "(I)D", sig := { parameters := [.int], returnType := some .double }, accessFlags := 1, code := some k3c1 }
/-- com/example/nearterm/nearterm/evaluation/QueryEvaluation -/
def k3 : Class := { plain "com/example/nearterm/nearterm/evaluation/QueryEvaluation" (some 0) with
  accessFlags := 49
  interfaces := #[]
  cf := some (fileOf pool3 8 #[] #[{ accessFlags := 0, nameIndex := 5, descriptorIndex := 54, attributes := #[] }, { accessFlags := 1, nameIndex := 35, descriptorIndex := 23, attributes := #[] }] 49 2 #[] #[{ accessFlags := 26, nameIndex := 51, descriptorIndex := 12, attributes := #[] }, { accessFlags := 18, nameIndex := 11, descriptorIndex := 12, attributes := #[] }, { accessFlags := 18, nameIndex := 15, descriptorIndex := 12, attributes := #[] }, { accessFlags := 18, nameIndex := 18, descriptorIndex := 19, attributes := #[] }])
  fields := #[{ name := "TENTHS", type := .int, accessFlags := 26, slot := 0, constantValue := 0 }, { name := "retrieved", type := .int, accessFlags := 18, slot := 0, constantValue := 0 }, { name := "relevant", type := .int, accessFlags := 18, slot := 1, constantValue := 0 }, { name := "relevantRanks", type := (.array .int), accessFlags := 18, slot := 2, constantValue := 0 }]
  methods := #[k3m0, k3m1]
  instanceTypes := #[.int, .int, (.array .int)]
  staticTypes := #[.int]
  resolved := Array.replicate 83 none
  statics := none }

def pool4 : Array CpInfo := pool [(1, u "java/lang/Cloneable"), (0, .class_ 1), (0, u "java/lang/Object"), (0, .class_ 3)] 3

/-- java/lang/Cloneable -/
def k4 : Class := { plain "java/lang/Cloneable" (some 0) with
  accessFlags := 1537
  interfaces := #[]
  cf := some (fileOf pool4 2 #[] #[] 1537 4 #[] #[])
  fields := #[]
  methods := #[]
  instanceTypes := #[]
  staticTypes := #[]
  resolved := Array.replicate 8 none
  statics := none }

def pool5 : Array CpInfo := pool [(1, u "java/io/Serializable"), (0, .class_ 1), (0, u "java/lang/Object"), (0, .class_ 3)] 3

/-- java/io/Serializable -/
def k5 : Class := { plain "java/io/Serializable" (some 0) with
  accessFlags := 1537
  interfaces := #[]
  cf := some (fileOf pool5 2 #[] #[] 1537 4 #[] #[])
  fields := #[]
  methods := #[]
  instanceTypes := #[]
  staticTypes := #[]
  resolved := Array.replicate 8 none
  statics := none }

/-- the primitive byte -/
def k6 : Class := { plain "byte" none with kind := .primitive 'B', accessFlags := 0x411 }
/-- [B -/
def k7 : Class := { plain "[B" (some 0) with kind := .array 6 .byte, interfaces := #[4, 5], accessFlags := 1041 }

/-- the primitive int -/
def k8 : Class := { plain "int" none with kind := .primitive 'I', accessFlags := 0x411 }
/-- [I -/
def k9 : Class := { plain "[I" (some 0) with kind := .array 8 .int, interfaces := #[4, 5], accessFlags := 1041 }

def heap : Heap := #[]
def classes : Array Class := #[k0, k1, k2, k3, k4, k5, k6, k7, k8, k9]
def interned : List (Array UInt16 × Addr) := []
def slotsUsed : Nat := 0
def theMethod : MethodId := ⟨1, 1⟩
def args0 : Array Value := #[.int 1, .int 2, .int 3, .int 4, .int 5, .int 6]
def aboutOver (below : List Frame) : State where
  vm := { classes := classes, interned := interned.toArray }
  heap := heap
  slotsUsed := slotsUsed
  threads := #[{ frames := .invoking theMethod args0 :: below }]
def below0 : List Frame := [.native { method := ⟨0, 0⟩, args := #[] }]
def about1 : State := aboutOver below0
def p0 : Program := .bare "" "" ""
def e0 : Env := launch0.env 0 0 0
theorem w_frames : about1.frames = Frame.invoking theMethod args0 :: below0 := rfl
set_option maxRecDepth 65536 in
theorem w_args : argsFit about1.vm theMethod args0 = true := by decide +kernel
set_option maxRecDepth 65536 in
theorem w_heap : heapFits about1 = true := by decide +kernel
set_option maxRecDepth 65536 in
theorem w_runnable : about1.curStatus? = some .runnable := by decide +kernel
set_option maxRecDepth 65536 in
theorem w_alone : about1.alone = true := by decide +kernel
set_option maxRecDepth 65536 in
theorem w_named : about1.methodNamed? x = some theMethod := by decide +kernel
set_option maxRecDepth 65536 in
theorem w_hears : about1.hears theMethod below0 = true := by decide +kernel
set_option maxRecDepth 65536 in
theorem w_ripe : about1.ripe theMethod args0 below0 = true := by decide +kernel
theorem w_running : about1.status = .running := rfl
set_option maxRecDepth 65536 in
theorem w_room : about1.hasRoom e0.platform room_1 = true :=
  launch0.hasRoom_least _ room_1 (by decide +kernel) (by decide +kernel) (by decide +kernel) (by decide +kernel) (by decide +kernel) (by decide +kernel)
theorem allAtoms_all (ts : List Jvm.Cond) (a : Array Jvm.Value) (st : Jvm.State) : (allAtoms ts).before a st = ts.all (fun c => c.before a st) := by
  induction ts with
  | nil => rfl
  | cons c t ih =>
    show (Jvm.Cond.and c (allAtoms t)).before a st = _
    rw [Jvm.Cond.before_and, ih, List.all_cons]
def words1 : List Jvm.Cond := Jvm.Cond.code x code maxLocals ret :: tables_1
/-- a 'code' word, met by the world's own term for the bytes: nothing is compared byte by byte -/
theorem code_word {y : MethodName} {bytes : ByteArray} {mx : Nat} {rt : Option FieldType} {a : Array Value} {s : State} {m : MethodId} {meth : Method} {c : Code} (h1 : s.methodNamed? y = some m) (h2 : s.vm.method? m = some meth) (h3 : meth.code = some c) (h4 : c.code = bytes)
    (h5 : (c.maxLocals == mx && c.exceptionTable.isEmpty && decide (c.maxStack ≤ mostOperands) && decide (meth.sig.returnType = rt) && !meth.locks && decide (parseMethodDescriptor y.desc = some meth.sig)) = true) : (Jvm.Cond.code y bytes mx rt).before a s = true := by
  simp only [Bool.and_eq_true, beq_iff_eq, Bool.not_eq_true', decide_eq_true_eq] at h5
  obtain ⟨⟨⟨⟨⟨g1, g2⟩, g3⟩, g4⟩, g5⟩, g6⟩ := h5
  simp [Cond.before, Cond.holds, Cond.value, h1, h2, h3, h4, g1, g2, g3, g4, g5, g6]
def isCode : Jvm.Cond → Bool
  | .code _ _ _ _ => true
  | _ => false
theorem all_split {L : List Jvm.Cond} {P : Jvm.Cond → Bool} (h1 : L.all (fun c => isCode c || P c) = true) (h2 : ∀ c ∈ L.filter isCode, P c = true) : L.all P = true := by
  refine List.all_eq_true.mpr fun c hc => ?_
  have h := List.all_eq_true.mp h1 c hc
  rcases Bool.eq_false_or_eq_true (isCode c) with hi | hi
  · exact h2 c (List.mem_filter.mpr ⟨hc, hi⟩)
  · simpa [hi] using h
set_option maxRecDepth 65536 in
theorem w_c0 : (Jvm.Cond.code x code maxLocals ret).before args0 about1 = true := code_word (m := ⟨1, 1⟩) (meth := k1m1) (c := k1c1) (by decide +kernel) rfl rfl rfl (by decide +kernel)
set_option maxRecDepth 65536 in
theorem w_c1 : (Jvm.Cond.code ({ cls := "java/lang/Math", name := "max", desc := "(II)I" } : Jvm.MethodName) jdk_29_method_65_code (2 : Nat) (Option.some Jvm.ClassFile.FieldType.int)).before args0 about1 = true := code_word (m := ⟨2, 1⟩) (meth := k2m1) (c := k2c1) (by decide +kernel) rfl rfl rfl (by decide +kernel)
set_option maxRecDepth 65536 in
theorem w_c2 : (Jvm.Cond.code ({ cls := "com/example/nearterm/nearterm/evaluation/QueryEvaluation", name := "<init>", desc := "(II[I)V" } : Jvm.MethodName) prog_31_method_1_code (4 : Nat) (Option.none : Option Jvm.ClassFile.FieldType)).before args0 about1 = true := code_word (m := ⟨3, 0⟩) (meth := k3m0) (c := k3c0) (by decide +kernel) rfl rfl rfl (by decide +kernel)
set_option maxRecDepth 65536 in
theorem w_c3 : (Jvm.Cond.code ({ cls := "java/lang/Object", name := "<init>", desc := "()V" } : Jvm.MethodName) object_method_1_code (1 : Nat) (Option.none : Option Jvm.ClassFile.FieldType)).before args0 about1 = true := code_word (m := ⟨0, 0⟩) (meth := k0m0) (c := k0c0) (by decide +kernel) rfl rfl rfl (by decide +kernel)
set_option maxRecDepth 65536 in
theorem w_c4 : (Jvm.Cond.code ({ cls := "com/example/nearterm/nearterm/evaluation/QueryEvaluation", name := "precisionAt", desc := "(I)D" } : Jvm.MethodName) prog_31_method_6_code (3 : Nat) (Option.some Jvm.ClassFile.FieldType.double)).before args0 about1 = true := code_word (m := ⟨3, 1⟩) (meth := k3m1) (c := k3c1) (by decide +kernel) rfl rfl rfl (by decide +kernel)
def codes1 : List Jvm.Cond := [Jvm.Cond.code x code maxLocals ret, Jvm.Cond.code ({ cls := "java/lang/Math", name := "max", desc := "(II)I" } : Jvm.MethodName) jdk_29_method_65_code (2 : Nat) (Option.some Jvm.ClassFile.FieldType.int), Jvm.Cond.code ({ cls := "com/example/nearterm/nearterm/evaluation/QueryEvaluation", name := "<init>", desc := "(II[I)V" } : Jvm.MethodName) prog_31_method_1_code (4 : Nat) (Option.none : Option Jvm.ClassFile.FieldType), Jvm.Cond.code ({ cls := "java/lang/Object", name := "<init>", desc := "()V" } : Jvm.MethodName) object_method_1_code (1 : Nat) (Option.none : Option Jvm.ClassFile.FieldType), Jvm.Cond.code ({ cls := "com/example/nearterm/nearterm/evaluation/QueryEvaluation", name := "precisionAt", desc := "(I)D" } : Jvm.MethodName) prog_31_method_6_code (3 : Nat) (Option.some Jvm.ClassFile.FieldType.double)]
set_option maxRecDepth 65536 in
theorem codes_eq : words1.filter isCode = codes1 := rfl
theorem w_codes : ∀ c ∈ words1.filter isCode, c.before args0 about1 = true := by
  rw [codes_eq]
  intro c hc
  simp only [codes1, List.mem_cons, List.not_mem_nil, or_false] at hc
  rcases hc with rfl | rfl | rfl | rfl | rfl
  · exact w_c0
  · exact w_c1
  · exact w_c2
  · exact w_c3
  · exact w_c4
set_option maxRecDepth 65536 in
theorem w_t1 : (words1.take 24).all (fun c => isCode c || c.before args0 about1) = true := by decide +kernel
set_option maxRecDepth 65536 in
theorem w_t2 : (words1.drop 24).all (fun c => isCode c || c.before args0 about1) = true := by decide +kernel
theorem w_tables : (allAtoms (Jvm.Cond.code x code maxLocals ret :: tables_1)).before args0 about1 = true := by
  rw [allAtoms_all]
  show words1.all (fun c => c.before args0 about1) = true
  refine all_split ?_ w_codes
  rw [← List.take_append_drop 24 words1, List.all_append, w_t1, w_t2]
  rfl
set_option maxRecDepth 65536 in
theorem w_case : (Jvm.Cond.and given_1 narrow_1).before args0 about1 = true := by decide +kernel
theorem w_applies : (headSpec (Jvm.Cond.code x code maxLocals ret :: tables_1) room_1).applies x e0.platform about1 = true :=
  (Spec.applies_iff w_frames).mpr ⟨w_running, w_runnable, w_alone, w_named, w_hears, w_ripe, w_room, w_tables⟩
theorem atStart : AtStart classFile x code maxLocals ret World_1 tables_1 room_1 Calls_1 rest_1 Pre_1 launch0 p0 e0 about1 theMethod args0 below0 :=
  ⟨lists_1, trivial, launch0.admits_env _ _ _, launch0.least_env, fairChoices_fair.cas, fairChoices_fair.clock, w_frames, w_args, w_heap, w_applies, trivial, trivial, w_case⟩
end start1
theorem witness_1 : WitnessClaimed_1 := ⟨start1.p0, start1.e0, start1.about1, start1.theMethod, start1.args0, start1.below0, start1.atStart⟩
end Jvm.Pilot.@@N@@
