import JvmDerived
import JvmDerived.Pilot.@@N@@Statement
import JvmDerived.Pilot.@@N@@Code
set_option linter.unusedVariables false
set_option linter.unusedSimpArgs false

namespace Jvm.OwnKit
open Sem ClassFile Op Lib Jvm.Stand Jvm.Free Jvm.LawKit Jvm.RoadKit Jvm.Free.Fl
/-- what is left to show of a run: from U it ends and returns, with E of the value, the end and the places written -/
def Goes (p : Program) (e : Env) (below : List Frame) (E : Option Value → State → List Loc → Prop) (U : State) : Prop :=
  ∃ s₂ v L, Steps p.tables e below U s₂ ∧ s₂.status = .running ∧ Ended s₂ below (.returned v) ∧ E v s₂ L
/-- the common end: nothing below n0 is written, Q holds of the value and the heap, the frame is k cells and j slots -/
def En (s : State) (n0 k j : Nat) (Q : Option Value → Heap → Prop) (v : Option Value) (s₂ : State) (L : List Loc) : Prop := (Fr n0 L ∧ Q v s₂.heap) ∧ FrameEnd s (.returned v) s₂ L k j
/-- where a walk of the body y stands -/
def Wk (Z : State) (y : MethodName) (bytes : ByteArray) (ml : Nat) (ret : Option FieldType) (n0 : Nat) (p : Program) (l : Launch) (e : Env) (R : Room) (s : State) (m : MethodId) (args : Array Value) (below : List Frame) (meth : Method) (c : Code) (T : State) (kc ks : Nat) : Prop :=
  (p.tables.exec = Jvm.exec ∧ Z.Warmed39 s.vm ∧ s.vm.findClass y.cls = some m.cls ∧ c.code = bytes ∧ c.maxLocals = ml ∧ meth.sig.returnType = ret ∧ meth.locks = false ∧ meth.name = y.name) ∧ ∃ locs, Stand p l e R s m args below meth c T locs kc ks ∧ Fr n0 locs
/-- a body's contract: called with the values as over the heap h0 it returns with Post -/
def Con (l : Launch) (Z : State) (n0 : Nat) (y : MethodName) (ws : List Cond) (bytes : ByteArray) (ml : Nat) (ret : Option FieldType) (rm : Room) (as : Array Value) (h0 : Heap) (Post : Option Value → Heap → Prop) : Prop :=
  MetFree l y (head1 (Cond.code y bytes ml ret :: ws) rm) (fun a U => a = as ∧ Z.Warmed39 U.vm ∧ U.heap = h0) (fun _ _ _ _ _ => True) (fun _ U o U' => ∃ v L, o = .returned v ∧ (Fr n0 L ∧ Post v U'.heap) ∧ FrameEnd U o U' L rm.cells rm.slots)
section Laws
variable {Z : State} {y : MethodName} {bytes : ByteArray} {ml : Nat} {ret : Option FieldType} {n0 : Nat} {p : Program} {l : Launch} {e : Env} {R : Room} {s : State} {m : MethodId} {args : Array Value} {below : List Frame} {meth : Method} {c : Code} {T : State} {kc ks k j : Nat} {Q : Option Value → Heap → Prop} {E : Option Value → State → List Loc → Prop} {pc pc' : Nat} {ls : Array Slot} {st : List Value} {a0 : Array Value}
theorem Goes.back {U U' : State} (g : Goes p e below E U') (h : ∀ t, Steps p.tables e below U' t → Steps p.tables e below U t) : Goes p e below E U := by
  obtain ⟨s₂, v, L, h1, h2⟩ := g; exact ⟨s₂, v, L, h _ h1, h2⟩
theorem Goes.mono {U : State} {E' : Option Value → State → List Loc → Prop} (g : Goes p e below E U) (h : ∀ v t L, E v t L → E' v t L) : Goes p e below E' U := by
  obtain ⟨s₂, v, L, h1, h2, h3, h4⟩ := g; exact ⟨s₂, v, L, h1, h2, h3, h _ _ _ h4⟩
theorem Con.mono {ws : List Cond} {rm : Room} {as : Array Value} {h0 : Heap} {Post Post' : Option Value → Heap → Prop} (C : Con l Z n0 y ws bytes ml ret rm as h0 Post) (h : ∀ v h, Post v h → Post' v h) : Con l Z n0 y ws bytes ml ret rm as h0 Post' := by
  intro p e ha hc hk s m args below hf happ hP hK
  obtain ⟨a, b, h1, h2, h3, v, L, h4, ⟨h5, h6⟩, h7⟩ := C p e ha hc hk s m args below hf happ hP hK
  exact ⟨a, b, h1, h2, h3, v, L, h4, ⟨h5, h _ _ h6⟩, h7⟩

theorem Wk.hx (W : Wk Z y bytes ml ret n0 p l e R s m args below meth c T kc ks) : p.tables.exec = Jvm.exec := W.1.1
theorem Wk.hZ (W : Wk Z y bytes ml ret n0 p l e R s m args below meth c T kc ks) : Z.Warmed39 s.vm := W.1.2.1
theorem Wk.hown (W : Wk Z y bytes ml ret n0 p l e R s m args below meth c T kc ks) : s.vm.findClass y.cls = some m.cls := W.1.2.2.1
theorem Wk.hby (W : Wk Z y bytes ml ret n0 p l e R s m args below meth c T kc ks) : c.code = bytes := W.1.2.2.2.1
theorem Wk.hml (W : Wk Z y bytes ml ret n0 p l e R s m args below meth c T kc ks) : c.maxLocals = ml := W.1.2.2.2.2.1
theorem Wk.hret (W : Wk Z y bytes ml ret n0 p l e R s m args below meth c T kc ks) : meth.sig.returnType = ret := W.1.2.2.2.2.2.1
theorem Wk.hlk (W : Wk Z y bytes ml ret n0 p l e R s m args below meth c T kc ks) : meth.locks = false := W.1.2.2.2.2.2.2.1
theorem Wk.hnm (W : Wk Z y bytes ml ret n0 p l e R s m args below meth c T kc ks) : meth.name = y.name := W.1.2.2.2.2.2.2.2
theorem Wk.here (W : Wk Z y bytes ml ret n0 p l e R s m args below meth c T kc ks) : At T m c below := by obtain ⟨_, _, X, _⟩ := W; exact X.here
theorem g_iloadN (W : Wk Z y bytes ml ret n0 p l e R s m args below meth c T kc ks) {i : Fin 4} {v : Int32} (hd : decode bytes pc = .ok (.iload_n i, 1)) (hpc : pc + 1 = pc') (hl : ls[i.val]? = some (.val (.int v))) (K : Goes p e below E (T.setTop (mkF m pc' ls (.int v :: st)))) : Goes p e below E (T.setTop (mkF m pc ls st)) := by
  subst hpc; exact K.back fun _ r => XS.iloadN W.here W.hx rfl (hb W.hby hd) hl r
theorem g_iload (W : Wk Z y bytes ml ret n0 p l e R s m args below meth c T kc ks) {i : Nat} {v : Int32} (hd : decode bytes pc = .ok (.iload i, 2)) (hpc : pc + 2 = pc') (hl : ls[i]? = some (.val (.int v))) (K : Goes p e below E (T.setTop (mkF m pc' ls (.int v :: st)))) : Goes p e below E (T.setTop (mkF m pc ls st)) := by
  subst hpc; exact K.back fun _ r => XS.iload W.here W.hx rfl (hb W.hby hd) hl r
theorem g_lloadN (W : Wk Z y bytes ml ret n0 p l e R s m args below meth c T kc ks) {i : Fin 4} {v : Int64} (hd : decode bytes pc = .ok (.lload_n i, 1)) (hpc : pc + 1 = pc') (hl : ls[i.val]? = some (.val (.long v))) (K : Goes p e below E (T.setTop (mkF m pc' ls (.long v :: st)))) : Goes p e below E (T.setTop (mkF m pc ls st)) := by
  subst hpc; exact K.back fun _ r => XT.lloadN W.here W.hx rfl (hb W.hby hd) hl r
theorem g_lload (W : Wk Z y bytes ml ret n0 p l e R s m args below meth c T kc ks) {i : Nat} {v : Int64} (hd : decode bytes pc = .ok (.lload i, 2)) (hpc : pc + 2 = pc') (hl : ls[i]? = some (.val (.long v))) (K : Goes p e below E (T.setTop (mkF m pc' ls (.long v :: st)))) : Goes p e below E (T.setTop (mkF m pc ls st)) := by
  subst hpc; exact K.back fun _ r => XT.lload W.here W.hx rfl (hb W.hby hd) hl r
theorem g_dloadN (W : Wk Z y bytes ml ret n0 p l e R s m args below meth c T kc ks) {i : Fin 4} {v : UInt64} (hd : decode bytes pc = .ok (.dload_n i, 1)) (hpc : pc + 1 = pc') (hl : ls[i.val]? = some (.val (.double v))) (K : Goes p e below E (T.setTop (mkF m pc' ls (.double v :: st)))) : Goes p e below E (T.setTop (mkF m pc ls st)) := by
  subst hpc; exact K.back fun _ r => XS.dloadN W.here W.hx rfl (hb W.hby hd) hl r
theorem g_dload (W : Wk Z y bytes ml ret n0 p l e R s m args below meth c T kc ks) {i : Nat} {v : UInt64} (hd : decode bytes pc = .ok (.dload i, 2)) (hpc : pc + 2 = pc') (hl : ls[i]? = some (.val (.double v))) (K : Goes p e below E (T.setTop (mkF m pc' ls (.double v :: st)))) : Goes p e below E (T.setTop (mkF m pc ls st)) := by
  subst hpc; exact K.back fun _ r => XS.dload W.here W.hx rfl (hb W.hby hd) hl r
theorem g_floadN (W : Wk Z y bytes ml ret n0 p l e R s m args below meth c T kc ks) {i : Fin 4} {v : UInt32} (hd : decode bytes pc = .ok (.fload_n i, 1)) (hpc : pc + 1 = pc') (hl : ls[i.val]? = some (.val (.float v))) (K : Goes p e below E (T.setTop (mkF m pc' ls (.float v :: st)))) : Goes p e below E (T.setTop (mkF m pc ls st)) := by
  subst hpc; exact K.back fun _ r => XS.floadN W.here W.hx rfl (hb W.hby hd) hl r
theorem g_fload (W : Wk Z y bytes ml ret n0 p l e R s m args below meth c T kc ks) {i : Nat} {v : UInt32} (hd : decode bytes pc = .ok (.fload i, 2)) (hpc : pc + 2 = pc') (hl : ls[i]? = some (.val (.float v))) (K : Goes p e below E (T.setTop (mkF m pc' ls (.float v :: st)))) : Goes p e below E (T.setTop (mkF m pc ls st)) := by
  subst hpc; exact K.back fun _ r => XS.fload W.here W.hx rfl (hb W.hby hd) hl r
theorem g_aloadN (W : Wk Z y bytes ml ret n0 p l e R s m args below meth c T kc ks) {i : Fin 4} {v : Value} (hd : decode bytes pc = .ok (.aload_n i, 1)) (hpc : pc + 1 = pc') (hl : ls[i.val]? = some (.val v)) (hv : v.isRef = true) (K : Goes p e below E (T.setTop (mkF m pc' ls (v :: st)))) : Goes p e below E (T.setTop (mkF m pc ls st)) := by
  subst hpc; exact K.back fun _ r => XS.aloadN W.here W.hx rfl (hb W.hby hd) hl hv r
theorem g_aload (W : Wk Z y bytes ml ret n0 p l e R s m args below meth c T kc ks) {i : Nat} {v : Value} (hd : decode bytes pc = .ok (.aload i, 2)) (hpc : pc + 2 = pc') (hl : ls[i]? = some (.val v)) (hv : v.isRef = true) (K : Goes p e below E (T.setTop (mkF m pc' ls (v :: st)))) : Goes p e below E (T.setTop (mkF m pc ls st)) := by
  subst hpc; exact K.back fun _ r => XS.aload W.here W.hx rfl (hb W.hby hd) hl hv r
theorem g_istoreN (W : Wk Z y bytes ml ret n0 p l e R s m args below meth c T kc ks) {i : Fin 4} {v : Int32} {ls' : Array Slot} (hd : decode bytes pc = .ok (.istore_n i, 1)) (hpc : pc + 1 = pc') (hl : storeLocals ls i.val (.int v) = some ls') (K : Goes p e below E (T.setTop (mkF m pc' ls' st))) : Goes p e below E (T.setTop (mkF m pc ls (.int v :: st))) := by
  subst hpc; exact K.back fun _ r => XS.istoreN W.here W.hx rfl (hb W.hby hd) rfl hl r
theorem g_istore (W : Wk Z y bytes ml ret n0 p l e R s m args below meth c T kc ks) {i : Nat} {v : Int32} {ls' : Array Slot} (hd : decode bytes pc = .ok (.istore i, 2)) (hpc : pc + 2 = pc') (hl : storeLocals ls i (.int v) = some ls') (K : Goes p e below E (T.setTop (mkF m pc' ls' st))) : Goes p e below E (T.setTop (mkF m pc ls (.int v :: st))) := by
  subst hpc; exact K.back fun _ r => XS.istore W.here W.hx rfl (hb W.hby hd) rfl hl r
theorem g_lstoreN (W : Wk Z y bytes ml ret n0 p l e R s m args below meth c T kc ks) {i : Fin 4} {v : Int64} {ls' : Array Slot} (hd : decode bytes pc = .ok (.lstore_n i, 1)) (hpc : pc + 1 = pc') (hl : storeLocals ls i.val (.long v) = some ls') (K : Goes p e below E (T.setTop (mkF m pc' ls' st))) : Goes p e below E (T.setTop (mkF m pc ls (.long v :: st))) := by
  subst hpc; exact K.back fun _ r => XT.lstoreN W.here W.hx rfl (hb W.hby hd) rfl hl r
theorem g_lstore (W : Wk Z y bytes ml ret n0 p l e R s m args below meth c T kc ks) {i : Nat} {v : Int64} {ls' : Array Slot} (hd : decode bytes pc = .ok (.lstore i, 2)) (hpc : pc + 2 = pc') (hl : storeLocals ls i (.long v) = some ls') (K : Goes p e below E (T.setTop (mkF m pc' ls' st))) : Goes p e below E (T.setTop (mkF m pc ls (.long v :: st))) := by
  subst hpc; exact K.back fun _ r => XT.lstore W.here W.hx rfl (hb W.hby hd) rfl hl r
theorem g_dstoreN (W : Wk Z y bytes ml ret n0 p l e R s m args below meth c T kc ks) {i : Fin 4} {v : UInt64} {ls' : Array Slot} (hd : decode bytes pc = .ok (.dstore_n i, 1)) (hpc : pc + 1 = pc') (hl : storeLocals ls i.val (.double v) = some ls') (K : Goes p e below E (T.setTop (mkF m pc' ls' st))) : Goes p e below E (T.setTop (mkF m pc ls (.double v :: st))) := by
  subst hpc; exact K.back fun _ r => XS.dstoreN W.here W.hx rfl (hb W.hby hd) rfl hl r
theorem g_dstore (W : Wk Z y bytes ml ret n0 p l e R s m args below meth c T kc ks) {i : Nat} {v : UInt64} {ls' : Array Slot} (hd : decode bytes pc = .ok (.dstore i, 2)) (hpc : pc + 2 = pc') (hl : storeLocals ls i (.double v) = some ls') (K : Goes p e below E (T.setTop (mkF m pc' ls' st))) : Goes p e below E (T.setTop (mkF m pc ls (.double v :: st))) := by
  subst hpc; exact K.back fun _ r => XS.dstore W.here W.hx rfl (hb W.hby hd) rfl hl r
theorem g_fstoreN (W : Wk Z y bytes ml ret n0 p l e R s m args below meth c T kc ks) {i : Fin 4} {v : UInt32} {ls' : Array Slot} (hd : decode bytes pc = .ok (.fstore_n i, 1)) (hpc : pc + 1 = pc') (hl : storeLocals ls i.val (.float v) = some ls') (K : Goes p e below E (T.setTop (mkF m pc' ls' st))) : Goes p e below E (T.setTop (mkF m pc ls (.float v :: st))) := by
  subst hpc; exact K.back fun _ r => XS.fstoreN W.here W.hx rfl (hb W.hby hd) rfl hl r
theorem g_fstore (W : Wk Z y bytes ml ret n0 p l e R s m args below meth c T kc ks) {i : Nat} {v : UInt32} {ls' : Array Slot} (hd : decode bytes pc = .ok (.fstore i, 2)) (hpc : pc + 2 = pc') (hl : storeLocals ls i (.float v) = some ls') (K : Goes p e below E (T.setTop (mkF m pc' ls' st))) : Goes p e below E (T.setTop (mkF m pc ls (.float v :: st))) := by
  subst hpc; exact K.back fun _ r => XS.fstore W.here W.hx rfl (hb W.hby hd) rfl hl r
theorem g_astoreN (W : Wk Z y bytes ml ret n0 p l e R s m args below meth c T kc ks) {i : Fin 4} {v : Value} {ls' : Array Slot} (hd : decode bytes pc = .ok (.astore_n i, 1)) (hpc : pc + 1 = pc') (hv : v.isRef = true) (hl : storeLocals ls i.val v = some ls') (K : Goes p e below E (T.setTop (mkF m pc' ls' st))) : Goes p e below E (T.setTop (mkF m pc ls (v :: st))) := by
  subst hpc; exact K.back fun _ r => XS.astoreN W.here W.hx rfl (hb W.hby hd) rfl hv hl r
theorem g_astore (W : Wk Z y bytes ml ret n0 p l e R s m args below meth c T kc ks) {i : Nat} {v : Value} {ls' : Array Slot} (hd : decode bytes pc = .ok (.astore i, 2)) (hpc : pc + 2 = pc') (hv : v.isRef = true) (hl : storeLocals ls i v = some ls') (K : Goes p e below E (T.setTop (mkF m pc' ls' st))) : Goes p e below E (T.setTop (mkF m pc ls (v :: st))) := by
  subst hpc; exact K.back fun _ r => XS.astore W.here W.hx rfl (hb W.hby hd) rfl hv hl r
theorem g_iconst (W : Wk Z y bytes ml ret n0 p l e R s m args below meth c T kc ks) {i : Int} {v : Int32} (hd : decode bytes pc = .ok (.iconst i, 1)) (hpc : pc + 1 = pc') (hv : Int32.ofInt i = v) (K : Goes p e below E (T.setTop (mkF m pc' ls (.int v :: st)))) : Goes p e below E (T.setTop (mkF m pc ls st)) := by
  subst hpc; exact K.back fun _ r => XS.iconst W.here W.hx rfl (hb W.hby hd) (by rw [hv]; exact r)
theorem g_bipush (W : Wk Z y bytes ml ret n0 p l e R s m args below meth c T kc ks) {i : Int} {v : Int32} (hd : decode bytes pc = .ok (.bipush i, 2)) (hpc : pc + 2 = pc') (hv : (Int8.ofInt i).toInt32 = v) (K : Goes p e below E (T.setTop (mkF m pc' ls (.int v :: st)))) : Goes p e below E (T.setTop (mkF m pc ls st)) := by
  subst hpc; exact K.back fun _ r => XS.bipush W.here W.hx rfl (hb W.hby hd) (by rw [hv]; exact r)
theorem g_sipush (W : Wk Z y bytes ml ret n0 p l e R s m args below meth c T kc ks) {i : Int} {v : Int32} (hd : decode bytes pc = .ok (.sipush i, 3)) (hpc : pc + 3 = pc') (hv : (Int16.ofInt i).toInt32 = v) (K : Goes p e below E (T.setTop (mkF m pc' ls (.int v :: st)))) : Goes p e below E (T.setTop (mkF m pc ls st)) := by
  subst hpc; exact K.back fun _ r => XS.sipush W.here W.hx rfl (hb W.hby hd) (by rw [hv]; exact r)
theorem g_lconst (W : Wk Z y bytes ml ret n0 p l e R s m args below meth c T kc ks) {i : Fin 2} {v : Int64} (hd : decode bytes pc = .ok (.lconst i, 1)) (hpc : pc + 1 = pc') (hv : Int64.ofNat i = v) (K : Goes p e below E (T.setTop (mkF m pc' ls (.long v :: st)))) : Goes p e below E (T.setTop (mkF m pc ls st)) := by
  subst hpc; exact K.back fun _ r => XT.lconst W.here W.hx rfl (hb W.hby hd) (by rw [hv]; exact r)
theorem g_dconst0 (W : Wk Z y bytes ml ret n0 p l e R s m args below meth c T kc ks)  (hd : decode bytes pc = .ok (.dconst 0, 1)) (hpc : pc + 1 = pc')  (K : Goes p e below E (T.setTop (mkF m pc' ls (.double 0 :: st)))) : Goes p e below E (T.setTop (mkF m pc ls st)) := by
  subst hpc; exact K.back fun _ r => XS.dconst0 W.here W.hx rfl (hb W.hby hd) rfl r
theorem g_dconst1 (W : Wk Z y bytes ml ret n0 p l e R s m args below meth c T kc ks)  (hd : decode bytes pc = .ok (.dconst 1, 1)) (hpc : pc + 1 = pc')  (K : Goes p e below E (T.setTop (mkF m pc' ls (.double 4607182418800017408 :: st)))) : Goes p e below E (T.setTop (mkF m pc ls st)) := by
  subst hpc; exact K.back fun _ r => XS.dconst1 W.here W.hx rfl (hb W.hby hd) rfl r
theorem g_aconst_null (W : Wk Z y bytes ml ret n0 p l e R s m args below meth c T kc ks)  (hd : decode bytes pc = .ok (.aconst_null, 1)) (hpc : pc + 1 = pc')  (K : Goes p e below E (T.setTop (mkF m pc' ls (.null :: st)))) : Goes p e below E (T.setTop (mkF m pc ls st)) := by
  subst hpc; exact K.back fun _ r => XS.aconstNull W.here W.hx rfl (hb W.hby hd) r
theorem g_iadd (W : Wk Z y bytes ml ret n0 p l e R s m args below meth c T kc ks) {x y0 v : Int32} (hd : decode bytes pc = .ok (.iadd, 1)) (hpc : pc + 1 = pc') (hv : x + y0 = v) (K : Goes p e below E (T.setTop (mkF m pc' ls (.int v :: st)))) : Goes p e below E (T.setTop (mkF m pc ls (.int y0 :: .int x :: st))) := by
  subst hpc; exact K.back fun _ r => XS.iadd W.here W.hx rfl (hb W.hby hd) rfl (by rw [hv]; exact r)
theorem g_isub (W : Wk Z y bytes ml ret n0 p l e R s m args below meth c T kc ks) {x y0 v : Int32} (hd : decode bytes pc = .ok (.isub, 1)) (hpc : pc + 1 = pc') (hv : x - y0 = v) (K : Goes p e below E (T.setTop (mkF m pc' ls (.int v :: st)))) : Goes p e below E (T.setTop (mkF m pc ls (.int y0 :: .int x :: st))) := by
  subst hpc; exact K.back fun _ r => XS.isub W.here W.hx rfl (hb W.hby hd) rfl (by rw [hv]; exact r)
theorem g_iand (W : Wk Z y bytes ml ret n0 p l e R s m args below meth c T kc ks) {x y0 v : Int32} (hd : decode bytes pc = .ok (.iand, 1)) (hpc : pc + 1 = pc') (hv : x &&& y0 = v) (K : Goes p e below E (T.setTop (mkF m pc' ls (.int v :: st)))) : Goes p e below E (T.setTop (mkF m pc ls (.int y0 :: .int x :: st))) := by
  subst hpc; exact K.back fun _ r => XS.iand W.here W.hx rfl (hb W.hby hd) rfl (by rw [hv]; exact r)
theorem g_imul (W : Wk Z y bytes ml ret n0 p l e R s m args below meth c T kc ks) {x y0 v : Int32} (hd : decode bytes pc = .ok (.imul, 1)) (hpc : pc + 1 = pc') (hv : x * y0 = v) (K : Goes p e below E (T.setTop (mkF m pc' ls (.int v :: st)))) : Goes p e below E (T.setTop (mkF m pc ls (.int y0 :: .int x :: st))) := by
  subst hpc; exact K.back fun _ r => XS.imul W.here W.hx rfl (hb W.hby hd) rfl (by rw [hv]; exact r)
theorem g_ixor (W : Wk Z y bytes ml ret n0 p l e R s m args below meth c T kc ks) {x y0 v : Int32} (hd : decode bytes pc = .ok (.ixor, 1)) (hpc : pc + 1 = pc') (hv : x ^^^ y0 = v) (K : Goes p e below E (T.setTop (mkF m pc' ls (.int v :: st)))) : Goes p e below E (T.setTop (mkF m pc ls (.int y0 :: .int x :: st))) := by
  subst hpc; exact K.back fun _ r => XT.ixor W.here W.hx rfl (hb W.hby hd) rfl (by rw [hv]; exact r)
theorem g_ior (W : Wk Z y bytes ml ret n0 p l e R s m args below meth c T kc ks) {x y0 v : Int32} (hd : decode bytes pc = .ok (.ior, 1)) (hpc : pc + 1 = pc') (hv : x ||| y0 = v) (K : Goes p e below E (T.setTop (mkF m pc' ls (.int v :: st)))) : Goes p e below E (T.setTop (mkF m pc ls (.int y0 :: .int x :: st))) := by
  subst hpc; exact K.back fun _ r => XT.ior W.here W.hx rfl (hb W.hby hd) rfl (by rw [hv]; exact r)
theorem g_ishl (W : Wk Z y bytes ml ret n0 p l e R s m args below meth c T kc ks) {x y0 v : Int32} (hd : decode bytes pc = .ok (.ishl, 1)) (hpc : pc + 1 = pc') (hv : x <<< (y0 &&& 31) = v) (K : Goes p e below E (T.setTop (mkF m pc' ls (.int v :: st)))) : Goes p e below E (T.setTop (mkF m pc ls (.int y0 :: .int x :: st))) := by
  subst hpc; exact K.back fun _ r => XT.ishl W.here W.hx rfl (hb W.hby hd) rfl (by rw [hv]; exact r)
theorem g_ishr (W : Wk Z y bytes ml ret n0 p l e R s m args below meth c T kc ks) {x y0 v : Int32} (hd : decode bytes pc = .ok (.ishr, 1)) (hpc : pc + 1 = pc') (hv : x >>> (y0 &&& 31) = v) (K : Goes p e below E (T.setTop (mkF m pc' ls (.int v :: st)))) : Goes p e below E (T.setTop (mkF m pc ls (.int y0 :: .int x :: st))) := by
  subst hpc; exact K.back fun _ r => XT.ishr W.here W.hx rfl (hb W.hby hd) rfl (by rw [hv]; exact r)
theorem g_iushr (W : Wk Z y bytes ml ret n0 p l e R s m args below meth c T kc ks) {x y0 v : Int32} (hd : decode bytes pc = .ok (.iushr, 1)) (hpc : pc + 1 = pc') (hv : XT.ushr x y0 = v) (K : Goes p e below E (T.setTop (mkF m pc' ls (.int v :: st)))) : Goes p e below E (T.setTop (mkF m pc ls (.int y0 :: .int x :: st))) := by
  subst hpc; exact K.back fun _ r => XT.iushr W.here W.hx rfl (hb W.hby hd) rfl (by rw [hv]; exact r)
theorem g_ineg (W : Wk Z y bytes ml ret n0 p l e R s m args below meth c T kc ks) {x v : Int32} (hd : decode bytes pc = .ok (.ineg, 1)) (hpc : pc + 1 = pc') (hv : -x = v) (K : Goes p e below E (T.setTop (mkF m pc' ls (.int v :: st)))) : Goes p e below E (T.setTop (mkF m pc ls (.int x :: st))) := by
  subst hpc; exact K.back fun _ r => XS.ineg W.here W.hx rfl (hb W.hby hd) rfl (by rw [hv]; exact r)
theorem g_ladd (W : Wk Z y bytes ml ret n0 p l e R s m args below meth c T kc ks) {x y0 v : Int64} (hd : decode bytes pc = .ok (.ladd, 1)) (hpc : pc + 1 = pc') (hv : x + y0 = v) (K : Goes p e below E (T.setTop (mkF m pc' ls (.long v :: st)))) : Goes p e below E (T.setTop (mkF m pc ls (.long y0 :: .long x :: st))) := by
  subst hpc; exact K.back fun _ r => XT.ladd W.here W.hx rfl (hb W.hby hd) rfl (by rw [hv]; exact r)
theorem g_lsub (W : Wk Z y bytes ml ret n0 p l e R s m args below meth c T kc ks) {x y0 v : Int64} (hd : decode bytes pc = .ok (.lsub, 1)) (hpc : pc + 1 = pc') (hv : x - y0 = v) (K : Goes p e below E (T.setTop (mkF m pc' ls (.long v :: st)))) : Goes p e below E (T.setTop (mkF m pc ls (.long y0 :: .long x :: st))) := by
  subst hpc; exact K.back fun _ r => XT.lsub W.here W.hx rfl (hb W.hby hd) rfl (by rw [hv]; exact r)
theorem g_lmul (W : Wk Z y bytes ml ret n0 p l e R s m args below meth c T kc ks) {x y0 v : Int64} (hd : decode bytes pc = .ok (.lmul, 1)) (hpc : pc + 1 = pc') (hv : x * y0 = v) (K : Goes p e below E (T.setTop (mkF m pc' ls (.long v :: st)))) : Goes p e below E (T.setTop (mkF m pc ls (.long y0 :: .long x :: st))) := by
  subst hpc; exact K.back fun _ r => XT.lmul W.here W.hx rfl (hb W.hby hd) rfl (by rw [hv]; exact r)
theorem g_land (W : Wk Z y bytes ml ret n0 p l e R s m args below meth c T kc ks) {x y0 v : Int64} (hd : decode bytes pc = .ok (.land, 1)) (hpc : pc + 1 = pc') (hv : x &&& y0 = v) (K : Goes p e below E (T.setTop (mkF m pc' ls (.long v :: st)))) : Goes p e below E (T.setTop (mkF m pc ls (.long y0 :: .long x :: st))) := by
  subst hpc; exact K.back fun _ r => XT.land W.here W.hx rfl (hb W.hby hd) rfl (by rw [hv]; exact r)
theorem g_lor (W : Wk Z y bytes ml ret n0 p l e R s m args below meth c T kc ks) {x y0 v : Int64} (hd : decode bytes pc = .ok (.lor, 1)) (hpc : pc + 1 = pc') (hv : x ||| y0 = v) (K : Goes p e below E (T.setTop (mkF m pc' ls (.long v :: st)))) : Goes p e below E (T.setTop (mkF m pc ls (.long y0 :: .long x :: st))) := by
  subst hpc; exact K.back fun _ r => XT.lor W.here W.hx rfl (hb W.hby hd) rfl (by rw [hv]; exact r)
theorem g_lxor (W : Wk Z y bytes ml ret n0 p l e R s m args below meth c T kc ks) {x y0 v : Int64} (hd : decode bytes pc = .ok (.lxor, 1)) (hpc : pc + 1 = pc') (hv : x ^^^ y0 = v) (K : Goes p e below E (T.setTop (mkF m pc' ls (.long v :: st)))) : Goes p e below E (T.setTop (mkF m pc ls (.long y0 :: .long x :: st))) := by
  subst hpc; exact K.back fun _ r => XT.lxor W.here W.hx rfl (hb W.hby hd) rfl (by rw [hv]; exact r)
theorem g_lneg (W : Wk Z y bytes ml ret n0 p l e R s m args below meth c T kc ks) {x v : Int64} (hd : decode bytes pc = .ok (.lneg, 1)) (hpc : pc + 1 = pc') (hv : -x = v) (K : Goes p e below E (T.setTop (mkF m pc' ls (.long v :: st)))) : Goes p e below E (T.setTop (mkF m pc ls (.long x :: st))) := by
  subst hpc; exact K.back fun _ r => XT.lneg W.here W.hx rfl (hb W.hby hd) rfl (by rw [hv]; exact r)
theorem g_lushr (W : Wk Z y bytes ml ret n0 p l e R s m args below meth c T kc ks) {x v : Int64} {y0 : Int32} (hd : decode bytes pc = .ok (.lushr, 1)) (hpc : pc + 1 = pc') (hv : XT.ushrL x y0 = v) (K : Goes p e below E (T.setTop (mkF m pc' ls (.long v :: st)))) : Goes p e below E (T.setTop (mkF m pc ls (.int y0 :: .long x :: st))) := by
  subst hpc; exact K.back fun _ r => XT.lushr W.here W.hx rfl (hb W.hby hd) rfl (by rw [hv]; exact r)
theorem g_lcmp (W : Wk Z y bytes ml ret n0 p l e R s m args below meth c T kc ks) {x y0 : Int64} {v : Int32} (hd : decode bytes pc = .ok (.lcmp, 1)) (hpc : pc + 1 = pc') (hv : XT.cmpL x y0 = v) (K : Goes p e below E (T.setTop (mkF m pc' ls (.int v :: st)))) : Goes p e below E (T.setTop (mkF m pc ls (.long y0 :: .long x :: st))) := by
  subst hpc; exact K.back fun _ r => XT.lcmp W.here W.hx rfl (hb W.hby hd) rfl (by rw [hv]; exact r)
theorem g_i2l (W : Wk Z y bytes ml ret n0 p l e R s m args below meth c T kc ks) {x : Int32} {v : Int64} (hd : decode bytes pc = .ok (.i2l, 1)) (hpc : pc + 1 = pc') (hv : x.toInt64 = v) (K : Goes p e below E (T.setTop (mkF m pc' ls (.long v :: st)))) : Goes p e below E (T.setTop (mkF m pc ls (.int x :: st))) := by
  subst hpc; exact K.back fun _ r => XT.i2l W.here W.hx rfl (hb W.hby hd) rfl (by rw [hv]; exact r)
theorem g_l2i (W : Wk Z y bytes ml ret n0 p l e R s m args below meth c T kc ks) {x : Int64} {v : Int32} (hd : decode bytes pc = .ok (.l2i, 1)) (hpc : pc + 1 = pc') (hv : x.toInt32 = v) (K : Goes p e below E (T.setTop (mkF m pc' ls (.int v :: st)))) : Goes p e below E (T.setTop (mkF m pc ls (.long x :: st))) := by
  subst hpc; exact K.back fun _ r => XT.l2i W.here W.hx rfl (hb W.hby hd) rfl (by rw [hv]; exact r)
theorem g_i2d (W : Wk Z y bytes ml ret n0 p l e R s m args below meth c T kc ks) {x : Int32} {v : UInt64} (hd : decode bytes pc = .ok (.i2d, 1)) (hpc : pc + 1 = pc') (hv : FP.i2d x = v) (K : Goes p e below E (T.setTop (mkF m pc' ls (.double v :: st)))) : Goes p e below E (T.setTop (mkF m pc ls (.int x :: st))) := by
  subst hpc; exact K.back fun _ r => XS.i2dS W.here W.hx rfl (hb W.hby hd) rfl hv r
theorem g_l2d (W : Wk Z y bytes ml ret n0 p l e R s m args below meth c T kc ks) {x : Int64} {v : UInt64} (hd : decode bytes pc = .ok (.l2d, 1)) (hpc : pc + 1 = pc') (hv : FP.l2d x = v) (K : Goes p e below E (T.setTop (mkF m pc' ls (.double v :: st)))) : Goes p e below E (T.setTop (mkF m pc ls (.long x :: st))) := by
  subst hpc; exact K.back fun _ r => XS.l2dS W.here W.hx rfl (hb W.hby hd) rfl hv r
theorem g_dneg (W : Wk Z y bytes ml ret n0 p l e R s m args below meth c T kc ks) {x v : UInt64} (hd : decode bytes pc = .ok (.dneg, 1)) (hpc : pc + 1 = pc') (hv : FP.dneg x = v) (K : Goes p e below E (T.setTop (mkF m pc' ls (.double v :: st)))) : Goes p e below E (T.setTop (mkF m pc ls (.double x :: st))) := by
  subst hpc; exact K.back fun _ r => XS.dnegS W.here W.hx rfl (hb W.hby hd) rfl hv r
theorem g_dcmp (W : Wk Z y bytes ml ret n0 p l e R s m args below meth c T kc ks) {o : CmpOp} {x y0 : UInt64} {v : Int32} (hd : decode bytes pc = .ok (.dcmp o, 1)) (hpc : pc + 1 = pc') (hv : cmpValue (FP.dcmp x y0) o = v) (K : Goes p e below E (T.setTop (mkF m pc' ls (.int v :: st)))) : Goes p e below E (T.setTop (mkF m pc ls (.double y0 :: .double x :: st))) := by
  subst hpc; exact K.back fun _ r => XS.dcmpS W.here W.hx rfl (hb W.hby hd) rfl hv r
theorem g_dadd (W : Wk Z y bytes ml ret n0 p l e R s m args below meth c T kc ks) {x y0 v : UInt64} (hd : decode bytes pc = .ok (.dadd, 1)) (hpc : pc + 1 = pc') (hv : FP.dadd x y0 = v) (hn : NoNaN64 v) (K : Goes p e below E (T.setTop (mkF m pc' ls (.double v :: st)))) : Goes p e below E (T.setTop (mkF m pc ls (.double y0 :: .double x :: st))) := by
  subst hpc; exact K.back fun _ r => XS.daddS W.here W.hx rfl (hb W.hby hd) rfl (by rw [hv]; exact hn) hv r
theorem g_dsub (W : Wk Z y bytes ml ret n0 p l e R s m args below meth c T kc ks) {x y0 v : UInt64} (hd : decode bytes pc = .ok (.dsub, 1)) (hpc : pc + 1 = pc') (hv : FP.dsub x y0 = v) (hn : NoNaN64 v) (K : Goes p e below E (T.setTop (mkF m pc' ls (.double v :: st)))) : Goes p e below E (T.setTop (mkF m pc ls (.double y0 :: .double x :: st))) := by
  subst hpc; exact K.back fun _ r => XS.dsubS W.here W.hx rfl (hb W.hby hd) rfl (by rw [hv]; exact hn) hv r
theorem g_dmul (W : Wk Z y bytes ml ret n0 p l e R s m args below meth c T kc ks) {x y0 v : UInt64} (hd : decode bytes pc = .ok (.dmul, 1)) (hpc : pc + 1 = pc') (hv : FP.dmul x y0 = v) (hn : NoNaN64 v) (K : Goes p e below E (T.setTop (mkF m pc' ls (.double v :: st)))) : Goes p e below E (T.setTop (mkF m pc ls (.double y0 :: .double x :: st))) := by
  subst hpc; exact K.back fun _ r => XS.dmulS W.here W.hx rfl (hb W.hby hd) rfl (by rw [hv]; exact hn) hv r
theorem g_ddiv (W : Wk Z y bytes ml ret n0 p l e R s m args below meth c T kc ks) {x y0 v : UInt64} (hd : decode bytes pc = .ok (.ddiv, 1)) (hpc : pc + 1 = pc') (hv : FP.ddiv x y0 = v) (hn : NoNaN64 v) (K : Goes p e below E (T.setTop (mkF m pc' ls (.double v :: st)))) : Goes p e below E (T.setTop (mkF m pc ls (.double y0 :: .double x :: st))) := by
  subst hpc; exact K.back fun _ r => XS.ddivS W.here W.hx rfl (hb W.hby hd) rfl (by rw [hv]; exact hn) hv r
theorem g_dup (W : Wk Z y bytes ml ret n0 p l e R s m args below meth c T kc ks) {v : Value} (hd : decode bytes pc = .ok (.dup, 1)) (hpc : pc + 1 = pc') (hc : v.category = 1) (K : Goes p e below E (T.setTop (mkF m pc' ls (v :: v :: st)))) : Goes p e below E (T.setTop (mkF m pc ls (v :: st))) := by
  subst hpc; exact K.back fun _ r => XS.dup W.here W.hx rfl (hb W.hby hd) rfl hc r
theorem g_pop (W : Wk Z y bytes ml ret n0 p l e R s m args below meth c T kc ks) {v : Value} (hd : decode bytes pc = .ok (.pop, 1)) (hpc : pc + 1 = pc') (hc : v.category = 1) (K : Goes p e below E (T.setTop (mkF m pc' ls st))) : Goes p e below E (T.setTop (mkF m pc ls (v :: st))) := by
  subst hpc; exact K.back fun _ r => XT.pop W.here W.hx rfl (hb W.hby hd) rfl hc r
theorem g_dup_x1 (W : Wk Z y bytes ml ret n0 p l e R s m args below meth c T kc ks) {v w : Value} (hd : decode bytes pc = .ok (.dup_x1, 1)) (hpc : pc + 1 = pc') (hc : v.category = 1) (hc2 : w.category = 1) (K : Goes p e below E (T.setTop (mkF m pc' ls (v :: w :: v :: st)))) : Goes p e below E (T.setTop (mkF m pc ls (v :: w :: st))) := by
  subst hpc; exact K.back fun _ r => XT.dupX1 W.here W.hx rfl (hb W.hby hd) rfl hc hc2 r
theorem g_dup2 (W : Wk Z y bytes ml ret n0 p l e R s m args below meth c T kc ks) {v w : Value} (hd : decode bytes pc = .ok (.dup2, 1)) (hpc : pc + 1 = pc') (hc : v.category = 1) (hc2 : w.category = 1) (K : Goes p e below E (T.setTop (mkF m pc' ls (v :: w :: v :: w :: st)))) : Goes p e below E (T.setTop (mkF m pc ls (v :: w :: st))) := by
  subst hpc; exact K.back fun _ r => XT.dup2 W.here W.hx rfl (hb W.hby hd) rfl hc hc2 r
theorem g_iinc (W : Wk Z y bytes ml ret n0 p l e R s m args below meth c T kc ks) {i : Nat} {d : Int} {x v : Int32} {ls' : Array Slot} (hd : decode bytes pc = .ok (.iinc i d, 3)) (hpc : pc + 3 = pc') (h1 : ls[i]? = some (.val (.int x))) (hv : x + Int32.ofInt d = v) (hl : storeLocals ls i (.int v) = some ls') (K : Goes p e below E (T.setTop (mkF m pc' ls' st))) : Goes p e below E (T.setTop (mkF m pc ls st)) := by
  subst hpc; exact K.back fun _ r => XS.iinc W.here W.hx rfl (hb W.hby hd) h1 (by rw [hv]; exact hl) r
theorem g_idiv (W : Wk Z y bytes ml ret n0 p l e R s m args below meth c T kc ks) {x y0 v : Int32} (hd : decode bytes pc = .ok (.idiv, 1)) (hpc : pc + 1 = pc') (h0 : y0 ≠ 0) (hv : x / y0 = v) (K : Goes p e below E (T.setTop (mkF m pc' ls (.int v :: st)))) : Goes p e below E (T.setTop (mkF m pc ls (.int y0 :: .int x :: st))) := by
  subst hpc; exact K.back fun _ r => XS.idiv W.here W.hx rfl (hb W.hby hd) rfl h0 (by rw [hv]; exact r)
theorem g_irem (W : Wk Z y bytes ml ret n0 p l e R s m args below meth c T kc ks) {x y0 v : Int32} (hd : decode bytes pc = .ok (.irem, 1)) (hpc : pc + 1 = pc') (h0 : y0 ≠ 0) (hv : x - (x / y0) * y0 = v) (K : Goes p e below E (T.setTop (mkF m pc' ls (.int v :: st)))) : Goes p e below E (T.setTop (mkF m pc ls (.int y0 :: .int x :: st))) := by
  subst hpc; exact K.back fun _ r => XS.irem W.here W.hx rfl (hb W.hby hd) rfl h0 (by rw [hv]; exact r)
theorem g_ldiv (W : Wk Z y bytes ml ret n0 p l e R s m args below meth c T kc ks) {x y0 v : Int64} (hd : decode bytes pc = .ok (.ldiv, 1)) (hpc : pc + 1 = pc') (h0 : y0 ≠ 0) (hv : x / y0 = v) (K : Goes p e below E (T.setTop (mkF m pc' ls (.long v :: st)))) : Goes p e below E (T.setTop (mkF m pc ls (.long y0 :: .long x :: st))) := by
  subst hpc; exact K.back fun _ r => XT.ldiv W.here W.hx rfl (hb W.hby hd) rfl h0 (by rw [hv]; exact r)
theorem g_lrem (W : Wk Z y bytes ml ret n0 p l e R s m args below meth c T kc ks) {x y0 v : Int64} (hd : decode bytes pc = .ok (.lrem, 1)) (hpc : pc + 1 = pc') (h0 : y0 ≠ 0) (hv : x - (x / y0) * y0 = v) (K : Goes p e below E (T.setTop (mkF m pc' ls (.long v :: st)))) : Goes p e below E (T.setTop (mkF m pc ls (.long y0 :: .long x :: st))) := by
  subst hpc; exact K.back fun _ r => XT.lrem W.here W.hx rfl (hb W.hby hd) rfl h0 (by rw [hv]; exact r)
theorem g_lshl (W : Wk Z y bytes ml ret n0 p l e R s m args below meth c T kc ks) {x v : Int64} {y0 : Int32} (hd : decode bytes pc = .ok (.lshl, 1)) (hpc : pc + 1 = pc') (hv : x <<< (y0.toInt64 &&& 63) = v) (K : Goes p e below E (T.setTop (mkF m pc' ls (.long v :: st)))) : Goes p e below E (T.setTop (mkF m pc ls (.int y0 :: .long x :: st))) := by
  subst hpc; exact K.back fun _ r => XT.lshl W.here W.hx rfl (hb W.hby hd) rfl (by rw [hv]; exact r)
theorem g_lshr (W : Wk Z y bytes ml ret n0 p l e R s m args below meth c T kc ks) {x v : Int64} {y0 : Int32} (hd : decode bytes pc = .ok (.lshr, 1)) (hpc : pc + 1 = pc') (hv : x >>> (y0.toInt64 &&& 63) = v) (K : Goes p e below E (T.setTop (mkF m pc' ls (.long v :: st)))) : Goes p e below E (T.setTop (mkF m pc ls (.int y0 :: .long x :: st))) := by
  subst hpc; exact K.back fun _ r => XT.lshr W.here W.hx rfl (hb W.hby hd) rfl (by rw [hv]; exact r)
def cP : ClassFile.Cond → Int32 → Int32 → Prop
  | .eq, x, y => x = y
  | .ne, x, y => ¬ x = y
  | .lt, x, y => x < y
  | .ge, x, y => ¬ x < y
  | .gt, x, y => y < x
  | .le, x, y => ¬ y < x
theorem cP_yes {cd : ClassFile.Cond} {x y : Int32} (h : cP cd x y) : if_icmp.holds cd x y = true := by
  cases cd
  · exact (teq h).1
  · exact (feq h).2
  · exact (tlt h).1
  · exact (flt h).2.1
  · exact (tlt h).2.2.1
  · exact (flt h).2.2.2
theorem cP_no {cd : ClassFile.Cond} {x y : Int32} (h : ¬ cP cd x y) : if_icmp.holds cd x y = false := by
  cases cd
  · exact (feq h).1
  · exact (teq (Classical.not_not.mp h)).2
  · exact (flt h).1
  · exact (tlt (Classical.not_not.mp h)).2.1
  · exact (flt h).2.2.1
  · exact (tlt (Classical.not_not.mp h)).2.2.2
theorem g_goto (W : Wk Z y bytes ml ret n0 p l e R s m args below meth c T kc ks) {o : Int} (hd : decode bytes pc = .ok (.goto o, 3)) (hpc : (pc : Int) + o = (pc' : Nat)) (K : Goes p e below E (T.setTop (mkF m pc' ls st))) : Goes p e below E (T.setTop (mkF m pc ls st)) :=
  K.back fun _ r => XS.goto W.here W.hx rfl (pc0 := pc) (pc' := pc') rfl (hb W.hby hd) (by omega) (by omega) r
theorem g_if (W : Wk Z y bytes ml ret n0 p l e R s m args below meth c T kc ks) {cd : ClassFile.Cond} {x : Int32} {o : Int} {pcy : Nat} (hd : decode bytes pc = .ok (.ifCond cd o, 3)) (hy : (pc : Int) + o = (pcy : Nat)) (hpc : pc + 3 = pc') (KY : cP cd x 0 → Goes p e below E (T.setTop (mkF m pcy ls st))) (KN : ¬ cP cd x 0 → Goes p e below E (T.setTop (mkF m pc' ls st))) : Goes p e below E (T.setTop (mkF m pc ls (.int x :: st))) := by
  subst hpc
  by_cases q : cP cd x 0
  · exact (KY q).back fun _ r => XS.ifYes W.here W.hx rfl (pc0 := pc) (pc' := pcy) rfl (hb W.hby hd) rfl ((if0 _ _).trans (cP_yes q)) (by omega) (by omega) r
  · exact (KN q).back fun _ r => XS.ifNo W.here W.hx rfl (hb W.hby hd) rfl ((if0 _ _).trans (cP_no q)) r
theorem g_icmp (W : Wk Z y bytes ml ret n0 p l e R s m args below meth c T kc ks) {cd : ClassFile.Cond} {x y0 : Int32} {o : Int} {pcy : Nat} (hd : decode bytes pc = .ok (.if_icmp cd o, 3)) (hy : (pc : Int) + o = (pcy : Nat)) (hpc : pc + 3 = pc') (KY : cP cd x y0 → Goes p e below E (T.setTop (mkF m pcy ls st))) (KN : ¬ cP cd x y0 → Goes p e below E (T.setTop (mkF m pc' ls st))) : Goes p e below E (T.setTop (mkF m pc ls (.int y0 :: .int x :: st))) := by
  subst hpc
  by_cases q : cP cd x y0
  · exact (KY q).back fun _ r => XS.icmpYes W.here W.hx rfl (pc0 := pc) (pc' := pcy) rfl (hb W.hby hd) rfl (cP_yes q) (by omega) (by omega) r
  · exact (KN q).back fun _ r => XS.icmpNo W.here W.hx rfl (hb W.hby hd) rfl (cP_no q) r

theorem Wk.more (W : Wk Z y bytes ml ret n0 p l e R s m args below meth c T kc ks) {kc' ks' : Nat} (h1 : kc ≤ kc') (h2 : ks ≤ ks') : Wk Z y bytes ml ret n0 p l e R s m args below meth c T kc' ks' := by
  obtain ⟨A, locs, X, N⟩ := W
  exact ⟨A, locs, X.more h1 h2, N⟩
theorem cmpL_self (x : Int64) : XT.cmpL x x = 0 := by
  show (if x < x then (1 : Int32) else if x = x then 0 else -1) = 0
  rw [if_neg (fun q => by rw [Int64.lt_iff_toInt_lt] at q; omega), if_pos rfl]
/-! ### the ends -/
theorem g_leave (W : Wk Z y bytes ml ret n0 p l e R s m args below meth c T kc ks) {v : Option Value} {U : State} (hv : ret = none → v = none) (hQ : Q v T.heap) (hk : kc ≤ k) (hj : ks ≤ j)
    (st : ∀ fs, (∀ (f : JFrame) (acts : List Action), f.method = m → f.locked = none → f.entered = [] → (doReturn e (T.setTop f) acts v).1 = T.setFrames fs) → Steps p.tables e below U (T.setFrames fs)) : Goes p e below (En s n0 k j Q) U := by
  have hlk := W.hlk
  have hret := W.hret
  obtain ⟨_, locs, X, N⟩ := W
  obtain ⟨fs, hr, hrun, hended, hW, hsame⟩ := X.leave (v := v) (fun q => hv (hret ▸ q)) hlk
  exact ⟨_, v, locs, st fs hr, hrun, hended, ⟨N, hQ⟩, ⟨_, rfl⟩, hW, hsame.mono hk hj⟩
theorem g_return (W : Wk Z y bytes ml none n0 p l e R s m args below meth c T kc ks) (hd : decode bytes pc = .ok (.return_, 1)) (hQ : Q none T.heap) (hk : kc ≤ k) (hj : ks ≤ j) : Goes p e below (En s n0 k j Q) (T.setTop (mkF m pc ls [])) :=
  g_leave W (fun _ => rfl) hQ hk hj fun fs hr => by
    have hret := W.hret
    have hx := W.hx
    have hby := W.hby
    obtain ⟨_, locs, X, N⟩ := W
    exact X.returnOut hx hret (hb hby hd) hr
theorem g_ret {t : FieldType} (W : Wk Z y bytes ml (some t) n0 p l e R s m args below meth c T kc ks) {w : Value} {i : Instr} (hn : narrow t w = w)
    (hi : (i = .ireturn ∧ (t = .int ∨ t = .boolean ∨ t = .byte ∨ t = .char ∨ t = .short) ∧ ∃ z, w = .int z) ∨ (i = .lreturn ∧ t = .long ∧ ∃ z, w = .long z) ∨ (i = .dreturn ∧ t = .double ∧ ∃ z, w = .double z) ∨ (i = .freturn ∧ t = .float ∧ ∃ z, w = .float z) ∨ (i = .areturn ∧ t.isReference = true ∧ w.isRef = true))
    (hd : decode bytes pc = .ok (i, 1)) (hQ : Q (some w) T.heap) (hk : kc ≤ k) (hj : ks ≤ j) : Goes p e below (En s n0 k j Q) (T.setTop (mkF m pc ls (w :: st))) :=
  g_leave W (fun q => nomatch q) hQ hk hj fun fs hr => by
    have hret := W.hret
    have hx := W.hx
    have hby := W.hby
    obtain ⟨_, locs, X, N⟩ := W
    exact retOut X hx hret hn hi (hb hby hd) hr
theorem g_ireturn (W : Wk Z y bytes ml (some .int) n0 p l e R s m args below meth c T kc ks) {x : Int32} (hd : decode bytes pc = .ok (.ireturn, 1)) (hQ : Q (some (.int x)) T.heap) (hk : kc ≤ k) (hj : ks ≤ j) : Goes p e below (En s n0 k j Q) (T.setTop (mkF m pc ls (.int x :: st))) :=
  g_ret W rfl (Or.inl ⟨rfl, Or.inl rfl, _, rfl⟩) hd hQ hk hj
theorem g_zreturn (W : Wk Z y bytes ml (some .boolean) n0 p l e R s m args below meth c T kc ks) {x : Int32} (h01 : x &&& 1 = x) (hd : decode bytes pc = .ok (.ireturn, 1)) (hQ : Q (some (.int x)) T.heap) (hk : kc ≤ k) (hj : ks ≤ j) : Goes p e below (En s n0 k j Q) (T.setTop (mkF m pc ls (.int x :: st))) :=
  g_ret W (by show Value.int (x &&& 1) = _; rw [h01]) (Or.inl ⟨rfl, Or.inr (Or.inl rfl), _, rfl⟩) hd hQ hk hj
theorem g_areturn {t : FieldType} (W : Wk Z y bytes ml (some t) n0 p l e R s m args below meth c T kc ks) {v : Value} (ht : t.isReference = true) (hr : v.isRef = true) (hd : decode bytes pc = .ok (.areturn, 1)) (hQ : Q (some v) T.heap) (hk : kc ≤ k) (hj : ks ≤ j) : Goes p e below (En s n0 k j Q) (T.setTop (mkF m pc ls (v :: st))) :=
  g_ret W (by cases t <;> first | (cases ht; done) | rfl) (Or.inr (Or.inr (Or.inr (Or.inr ⟨rfl, ht, hr⟩)))) hd hQ hk hj
theorem g_lreturn (W : Wk Z y bytes ml (some .long) n0 p l e R s m args below meth c T kc ks) {x : Int64} (hd : decode bytes pc = .ok (.lreturn, 1)) (hQ : Q (some (.long x)) T.heap) (hk : kc ≤ k) (hj : ks ≤ j) : Goes p e below (En s n0 k j Q) (T.setTop (mkF m pc ls (.long x :: st))) :=
  g_ret W rfl (Or.inr (Or.inl ⟨rfl, rfl, _, rfl⟩)) hd hQ hk hj
theorem g_dreturn (W : Wk Z y bytes ml (some .double) n0 p l e R s m args below meth c T kc ks) {x : UInt64} (hd : decode bytes pc = .ok (.dreturn, 1)) (hQ : Q (some (.double x)) T.heap) (hk : kc ≤ k) (hj : ks ≤ j) : Goes p e below (En s n0 k j Q) (T.setTop (mkF m pc ls (.double x :: st))) :=
  g_ret W rfl (Or.inr (Or.inr (Or.inl ⟨rfl, rfl, _, rfl⟩))) hd hQ hk hj
/-! ### the head of a body -/
theorem con_of {ws : List Cond} {rm : Room} {as : Array Value} {h0 : Heap} {Post : Option Value → Heap → Prop} (hpn : plainFor y = true)
    (body : ∀ (p : Program) (e : Env) (s : State) (m : MethodId) (below : List Frame) (meth : Method) (c : Code) (T : State), Wk Z y bytes ml ret n0 p l e rm s m as below meth c T 0 0 → T.heap = h0 → Goes p e below (En s n0 rm.cells rm.slots Post) (T.setTop (entryFrame m as ml))) :
    Con l Z n0 y ws bytes ml ret rm as h0 Post := by
  refine MetFree.of_bodySF hpn hisR ?_
  intro p e s m args below meth c s₁ Bd hml0 hP hK
  obtain ⟨rfl, hZ, hh⟩ := hP
  obtain ⟨s₂, v, L, g1, g2, g3, g4, g5⟩ := body p e s m below meth c s₁ ⟨⟨Bd.exec, hZ, findClass_of_methodNamed Bd.named, Bd.bytes, hml0, Bd.returns, Bd.notSynchronized, (name_of_methodNamed Bd.named Bd.method).1⟩, [], Stand.of_body Bd, Fr.nil n0⟩ (by rw [← hh, Bd.state]; rfl)
  exact ⟨s₂, _, g1, g2, g3, v, L, rfl, g4, g5⟩
theorem g_cast {g g' : JFrame} (q : g = g') (K : Goes p e below E (T.setTop g')) : Goes p e below E (T.setTop g) := q ▸ K
/-! ### constants of the pool -/
theorem g_ldcInt (W : Wk Z y bytes ml ret n0 p l e R s m args below meth c T kc ks) {ix : Nat} {v : Int32} (w : (Cond.constant y.cls ix v).before a0 Z = true) (hd : decode bytes pc = .ok (.ldc ix, 2)) (hpc : pc + 2 = pc') (K : Goes p e below E (T.setTop (mkF m pc' ls (.int v :: st)))) : Goes p e below E (T.setTop (mkF m pc ls st)) := by
  subst hpc
  have hx := W.hx; have hby := W.hby; have hown := W.hown; have hZ := W.hZ
  obtain ⟨_, locs, X, N⟩ := W
  exact K.back fun _ r => X.ldcInt hx hown (mvT hZ w) (g := mkF m pc ls st) rfl (hb hby hd) _ r
theorem g_ldc2Long (W : Wk Z y bytes ml ret n0 p l e R s m args below meth c T kc ks) {ix : Nat} {v : Int64} (w : (Cond.constantLong y.cls ix v).before a0 Z = true) (hd : decode bytes pc = .ok (.ldc2_w ix, 3)) (hpc : pc + 3 = pc') (K : Goes p e below E (T.setTop (mkF m pc' ls (.long v :: st)))) : Goes p e below E (T.setTop (mkF m pc ls st)) := by
  subst hpc
  have hx := W.hx; have hby := W.hby; have hown := W.hown; have hZ := W.hZ
  obtain ⟨_, locs, X, N⟩ := W
  exact K.back fun _ r => X.ldc2Long hx hown (mvT hZ w) (g := mkF m pc ls st) rfl (hb hby hd) _ r
theorem g_ldc2Double (W : Wk Z y bytes ml ret n0 p l e R s m args below meth c T kc ks) {ix : Nat} {v : UInt64} (w : (Cond.constantDouble y.cls ix v).before a0 Z = true) (hd : decode bytes pc = .ok (.ldc2_w ix, 3)) (hpc : pc + 3 = pc') (K : Goes p e below E (T.setTop (mkF m pc' ls (.double v :: st)))) : Goes p e below E (T.setTop (mkF m pc ls st)) := by
  subst hpc
  have hx := W.hx; have hby := W.hby; have hown := W.hown; have hZ := W.hZ
  obtain ⟨_, locs, X, N⟩ := W
  exact K.back fun _ r => X.ldc2DoubleC hx hown (mvT hZ w) (g := mkF m pc ls st) rfl (hb hby hd) _ r
theorem g_ldcFloat (W : Wk Z y bytes ml ret n0 p l e R s m args below meth c T kc ks) {ix : Nat} {v : UInt32} (w : (Cond.constantFloat y.cls ix v).before a0 Z = true) (hd : decode bytes pc = .ok (.ldc ix, 2)) (hpc : pc + 2 = pc') (K : Goes p e below E (T.setTop (mkF m pc' ls (.float v :: st)))) : Goes p e below E (T.setTop (mkF m pc ls st)) := by
  subst hpc
  have hx := W.hx; have hby := W.hby; have hown := W.hown; have hZ := W.hZ
  obtain ⟨_, locs, X, N⟩ := W
  exact K.back fun _ r => X.ldcFloatC hx hown (mvT hZ w) (g := mkF m pc ls st) rfl (hb hby hd) _ r
/-! ### the heap: a list of places, each with what its cell is -/
abbrev HRow := Addr × (Cell → Prop)
/-- what was there at the start Z is as it was -/
def Bs (Z : State) (n0 : Nat) (h : Heap) : Prop := n0 ≤ h.size ∧ Z.heap.size ≤ n0 ∧ Ext Z.heap h
def Hp (Z : State) (n0 : Nat) (h : Heap) (L : List HRow) : Prop := Bs Z n0 h ∧ (L.map (·.1)).Nodup ∧ ∀ r ∈ L, n0 ≤ r.1 ∧ ∃ c : Cell, h[r.1]? = some c ∧ r.2 c
abbrev FR := String × String × String × Value
def FldC (Z : State) (f : FR) (c : Cell) : Prop := ∃ (cf : ClassId) (k : Class) (i : Nat) (fd : Field), Z.fieldFound? f.1 f.2.1 f.2.2.1 = some (cf, k, i, fd) ∧ fd.isStatic = false ∧ Z.vm.assignable c.cls cf = true ∧ c.slots[fd.slot]? = some f.2.2.2
def ObC (Z : State) (C : String) (fs : List FR) (c : Cell) : Prop :=
  (∃ k : Class, Z.vm.findClass C = some c.cls ∧ Z.vm.classes[c.cls]? = some k ∧ (k.kind = .ordinary → c.slots.size = k.instanceTypes.size)) ∧ c.vm ≠ .unknown ∧ c.vm.isStatics = false ∧ (∀ f ∈ fs, FldC Z f c) ∧ (fs.map fun f => RoadKit.slotOf Z f.1 f.2.1 f.2.2.1).Nodup
def ArC (Z : State) (ty : FieldType) (vs : List Value) (c : Cell) : Prop := Z.isArrayOf c ty ∧ c.vm ≠ .unknown ∧ c.slots = vs.toArray ∧ vs.length < 2 ^ 31
section Heap
variable {h h' : Heap} {L : List HRow} {a : Addr} {P P' : Cell → Prop} {cell : Cell} {i jx : Nat} {C O n d R0 : String} {fs : List FR} {v w : Value} {vs : List Value} {ty : FieldType}
theorem Bs.start : Bs Z Z.heap.size Z.heap := ⟨Nat.le_refl _, Nat.le_refl _, Nat.le_refl _, fun _ _ q => q⟩
theorem Bs.ext (q : Bs Z n0 h) (E : Ext h h') : Bs Z n0 h' := ⟨Nat.le_trans q.1 E.1, q.2.1, Nat.le_trans q.2.2.1 E.1, fun a c r => E.2 a c (q.2.2.2 a c r)⟩
theorem Bs.put (q : Bs Z n0 h) (ha : n0 ≤ a) (c' : Cell) : Bs Z n0 (h.setIfInBounds a c') := by
  refine ⟨by simpa using q.1, q.2.1, by simpa using q.2.2.1, fun x c r => ?_⟩
  have hx := (Array.getElem?_eq_some_iff.mp r).1
  have := q.2.1
  rw [Array.getElem?_setIfInBounds_ne (by omega)]; exact q.2.2.2 x c r
theorem Hp.nil (q : Bs Z n0 h) : Hp Z n0 h [] := ⟨q, List.nodup_nil, fun _ r => nomatch r⟩
theorem Hp.get (H : Hp Z n0 h L) (hi : L[i]? = some (a, P)) : n0 ≤ a ∧ ∃ c : Cell, h[a]? = some c ∧ P c := H.2.2 (a, P) (List.mem_of_getElem? hi)
theorem map_set_same {α β : Type} (f : α → β) : ∀ (L : List α) (i : Nat) (x x' : α), L[i]? = some x → f x' = f x → (L.set i x').map f = L.map f
  | [], _, _, _, h, _ => by simp at h
  | z :: L, 0, x, x', h, e => by simp at h; subst h; simp [e]
  | z :: L, i + 1, x, x', h, e => by simp at h; simp [map_set_same f L i x x' h e]
theorem nodup_inj {α : Type} {l : List α} (h : l.Nodup) {i j : Nat} {x : α} (hi : l[i]? = some x) (hj : l[j]? = some x) : i = j := (List.getElem?_inj (List.getElem?_eq_some_iff.mp hi).1 h).mp (hi.trans hj.symm)
theorem erase_perm {α : Type} : ∀ (L : List α) (i : Nat) (x : α), L[i]? = some x → L.Perm (x :: L.eraseIdx i)
  | [], _, _, h => by simp at h
  | z :: L, 0, x, h => by simp at h; subst h; exact List.Perm.refl _
  | z :: L, i + 1, x, h => by
    simp at h
    exact ((erase_perm L i x h).cons z).trans (List.Perm.swap x z _)
theorem Hp.put (H : Hp Z n0 h L) (hi : L[i]? = some (a, P)) {c' : Cell} (hP : P' c') : Hp Z n0 (h.setIfInBounds a c') (L.set i (a, P')) := by
  obtain ⟨h1, h2, h3⟩ := H
  obtain ⟨q1, c0, q2, -⟩ := Hp.get ⟨h1, h2, h3⟩ hi
  have hlt := (Array.getElem?_eq_some_iff.mp q2).1
  refine ⟨h1.put q1 c', by rw [map_set_same (·.1) L i (a, P) (a, P') hi rfl]; exact h2, fun r hr => ?_⟩
  obtain ⟨jj, hj, hjr⟩ := List.mem_iff_getElem.mp hr
  have hjL : jj < L.length := by simpa using hj
  by_cases e : jj = i
  · subst e
    rw [List.getElem_set_self] at hjr
    subst hjr
    exact ⟨q1, c', by simp [hlt], hP⟩
  · rw [List.getElem_set_ne (Ne.symm e)] at hjr
    have hm : r ∈ L := hjr ▸ List.getElem_mem hjL
    obtain ⟨g1, c1, g2, g3⟩ := h3 r hm
    refine ⟨g1, c1, ?_, g3⟩
    have hne : a ≠ r.1 := fun q => by
      have e1 : (L.map (·.1))[i]? = some a := by rw [List.getElem?_map, hi]; rfl
      have e2 : (L.map (·.1))[jj]? = some a := by rw [List.getElem?_map, List.getElem?_eq_getElem hjL, hjr, q]; rfl
      exact e (nodup_inj h2 e2 e1)
    rw [Array.getElem?_setIfInBounds_ne hne]; exact g2
theorem Hp.push (H : Hp Z n0 h L) (E : Ext h h') {c : Cell} (hc : h'[h.size]? = some c) (hP : P c) : Hp Z n0 h' ((h.size, P) :: L) := by
  refine ⟨H.1.ext E, ?_, fun r hr => ?_⟩
  · rw [List.map_cons, List.nodup_cons]
    refine ⟨fun q => ?_, H.2.1⟩
    obtain ⟨r, hr, e⟩ := List.mem_map.mp q
    obtain ⟨-, c1, g2, -⟩ := H.2.2 r hr
    have := (Array.getElem?_eq_some_iff.mp g2).1
    have e' : r.1 = h.size := e
    rw [e'] at this; exact Nat.lt_irrefl _ this
  · rcases List.mem_cons.mp hr with rfl | hr
    · exact ⟨H.1.1, c, hc, hP⟩
    · obtain ⟨g1, c1, g2, g3⟩ := H.2.2 r hr
      exact ⟨g1, c1, E.2 _ _ g2, g3⟩
theorem Hp.perm {L' : List HRow} (H : Hp Z n0 h L) (q : L.Perm L') : Hp Z n0 h L' := ⟨H.1, (q.map _).nodup_iff.mp H.2.1, fun r hr => H.2.2 r (q.mem_iff.mpr hr)⟩
theorem Hp.front {r : HRow} (H : Hp Z n0 h L) (hi : L[i]? = some r) {L' : List HRow} (hL : r :: L.eraseIdx i = L') : Hp Z n0 h L' := by
  subst hL
  exact H.perm (erase_perm L i r hi)
theorem Hp.imp (H : Hp Z n0 h L) (hi : L[i]? = some (a, P)) (q : ∀ c, P c → P' c) : Hp Z n0 h (L.set i (a, P')) := by
  obtain ⟨q1, c0, q2, q3⟩ := H.get hi
  have := H.put hi (q c0 q3)
  have e : h.setIfInBounds a c0 = h := by
    apply Array.ext_getElem?; intro x
    by_cases z : a = x
    · subst z; simp [(Array.getElem?_eq_some_iff.mp q2).1, ← q2]
    · rw [Array.getElem?_setIfInBounds_ne z]
  rw [e] at this; exact this
theorem Hp.tail {r : HRow} (H : Hp Z n0 h (r :: L)) : Hp Z n0 h L := ⟨H.1, (List.nodup_cons.mp H.2.1).2, fun x hx => H.2.2 x (List.mem_cons_of_mem _ hx)⟩
theorem Hp.ne (H : Hp Z n0 h L) {b : Addr} (hi : L[i]? = some (a, P)) (hj : L[jx]? = some (b, P')) (hne : i ≠ jx) : a ≠ b := fun q => by
  have e1 : (L.map (·.1))[i]? = some a := by rw [List.getElem?_map, hi]; rfl
  have e2 : (L.map (·.1))[jx]? = some a := by rw [List.getElem?_map, hj, q]; rfl
  exact hne (nodup_inj H.2.1 e1 e2)
theorem FldC.fld {f : FR} (F : FldC Z f cell) (hc : h[a]? = some cell) (hu : cell.vm ≠ .unknown) (hst : cell.vm.isStatics = false) : Fld Z h a f.1 f.2.1 f.2.2.1 f.2.2.2 := by
  obtain ⟨cf, k, i, fd, h1, h2, h3, h4⟩ := F
  exact ⟨cell, cf, k, i, fd, hc, h1, h2, hu, hst, h3, h4⟩
theorem ObC.exa (F : ObC Z C fs cell) (hc : h[a]? = some cell) : Exa Z h a C := by
  obtain ⟨⟨k, h1, h2, h3⟩, h4, h5, -⟩ := F
  exact ⟨cell, k, hc, h1, h2, h5, h3⟩
theorem ObC.put (F : ObC Z C fs cell) (hj : fs[jx]? = some (O, n, d, v)) : ObC Z C (fs.set jx (O, n, d, w)) (cell.setSlot (RoadKit.slotOf Z O n d) w) := by
  obtain ⟨⟨k, h1, h2, h3⟩, h4, h5, h6, h7⟩ := F
  refine ⟨⟨k, h1, h2, fun q => by rw [sz_set]; exact h3 q⟩, h4, h5, fun f hf => ?_, by rw [map_set_same (fun f : FR => RoadKit.slotOf Z f.1 f.2.1 f.2.2.1) fs jx (O, n, d, v) (O, n, d, w) hj rfl]; exact h7⟩
  obtain ⟨hjL, hjE⟩ := List.getElem?_eq_some_iff.mp hj
  obtain ⟨ii, hi, hie⟩ := List.mem_iff_getElem.mp hf
  have hiL : ii < fs.length := by simpa using hi
  by_cases e : ii = jx
  · subst e
    rw [List.getElem_set_self] at hie
    subst hie
    obtain ⟨cf, kf, i, fd, g1, g2, g3, g4⟩ := h6 _ (hjE ▸ List.getElem_mem hjL)
    refine ⟨cf, kf, i, fd, g1, g2, g3, ?_⟩
    have es : RoadKit.slotOf Z O n d = fd.slot := by simp only [RoadKit.slotOf]; rw [show Z.fieldFound? O n d = _ from g1]; rfl
    have hlt := (Array.getElem?_eq_some_iff.mp g4).1
    simp [Cell.setSlot, es, hlt]
  · rw [List.getElem_set_ne (Ne.symm e)] at hie
    have hm : f ∈ fs := hie ▸ List.getElem_mem hiL
    obtain ⟨cf, kf, i, fd, g1, g2, g3, g4⟩ := h6 f hm
    refine ⟨cf, kf, i, fd, g1, g2, g3, ?_⟩
    have es : RoadKit.slotOf Z f.1 f.2.1 f.2.2.1 = fd.slot := by simp only [RoadKit.slotOf]; rw [g1]; rfl
    have hne : RoadKit.slotOf Z O n d ≠ fd.slot := fun q => by
      have e1 : (fs.map fun f => RoadKit.slotOf Z f.1 f.2.1 f.2.2.1)[jx]? = some fd.slot := by rw [List.getElem?_map, hj, ← q]; rfl
      have e2 : (fs.map fun f => RoadKit.slotOf Z f.1 f.2.1 f.2.2.1)[ii]? = some fd.slot := by rw [List.getElem?_map, List.getElem?_eq_getElem hiL, hie, ← es]; rfl
      exact e (nodup_inj h7 e2 e1)
    show (cell.slots.setIfInBounds _ w)[fd.slot]? = _
    rw [Array.getElem?_setIfInBounds_ne hne]; exact g4
/-- what a class's layout words give: each field laid, its first value, the names apart -/
def LaidAll (Z : State) (a0 : Array Value) (C : String) (fs : List FR) : Prop := ∀ f ∈ fs, Laid Z a0 C f.1 f.2.1 f.2.2.1 ∧ ∃ t, parseFieldDescriptor f.2.2.1 = some t ∧ f.2.2.2 = defaultValue t
theorem LaidAll.nil : LaidAll Z a0 C [] := fun _ q => nomatch q
theorem LaidAll.cons {t : FieldType} (q : Laid Z a0 C O n d) (ht : parseFieldDescriptor d = some t) (hv : v = defaultValue t) (r : LaidAll Z a0 C fs) : LaidAll Z a0 C ((O, n, d, v) :: fs) := fun f hf => by
  rcases List.mem_cons.mp hf with rfl | hf
  · exact ⟨q, t, ht, hv⟩
  · exact r f hf
theorem LaidAll.slots (H : LaidAll Z a0 C fs) (q : (fs.map (·.2.1)).Nodup) : (fs.map fun f => RoadKit.slotOf Z f.1 f.2.1 f.2.2.1).Nodup := by
  induction fs with
  | nil => exact List.nodup_nil
  | cons f fs ih =>
    rw [List.map_cons, List.nodup_cons] at q ⊢
    refine ⟨fun z => ?_, ih (fun x hx => H x (List.mem_cons_of_mem _ hx)) q.2⟩
    obtain ⟨g, hg, e⟩ := List.mem_map.mp z
    obtain ⟨L1, t1, p1, -⟩ := H f (List.mem_cons_self ..)
    obtain ⟨L2, t2, p2, -⟩ := H g (List.mem_cons_of_mem _ hg)
    exact slot_ne L2 L1 (fun u => q.1 (List.mem_map.mpr ⟨g, hg, u⟩)) p2 p1 e
/-! ### the steps that read or write it -/
theorem g_getf (W : Wk Z y bytes ml ret n0 p l e R s m args below meth c T kc ks) {ix : Nat} (w : (Cond.fieldLink y.cls ix R0 n d).before a0 Z = true) (via : Via Z R0 O n d) (H : Hp Z n0 T.heap L) (hi : L[i]? = some (a, ObC Z C fs)) (hj : fs[jx]? = some (O, n, d, v)) (hd : decode bytes pc = .ok (.getfield ix, 3)) (hpc : pc + 3 = pc')
    (K : ∀ T', Wk Z y bytes ml ret n0 p l e R s m args below meth c T' kc ks → Hp Z n0 T'.heap L → Goes p e below E (T'.setTop (mkF m pc' ls (v :: st)))) : Goes p e below E (T.setTop (mkF m pc ls (.ref a :: st))) := by
  subst hpc
  have hx := W.hx; have hby := W.hby; have hown := W.hown; have hZ := W.hZ
  obtain ⟨A, locs, X, N⟩ := W
  obtain ⟨-, cl, q1, q2⟩ := H.get hi
  have F := (q2.2.2.2.1 _ (List.mem_of_getElem? hj)).fld q1 q2.2.1 q2.2.2.1
  obtain ⟨T', X', e', st'⟩ := getF X hx hZ hown (host := "") (Or.inl w) via rfl F (g := mkF m pc ls (.ref a :: st)) rfl rfl (hb hby hd)
  exact (K T' ⟨A, locs, X', N⟩ (e' ▸ H)).back st'
theorem g_putf (W : Wk Z y bytes ml ret n0 p l e R s m args below meth c T kc ks) {ix kk : Nat} (wd : (Cond.fieldLink y.cls ix R0 n d).before a0 Z = true) (via : Via Z R0 O n d) (wl : (Cond.lays C O n d).before a0 Z = true ∨ ((Cond.laysFinal C O n d).before a0 Z = true ∧ y.cls = O ∧ y.name = "<init>")) (wi : (Cond.instantiable C kk).before a0 Z = true) (hty : parseFieldDescriptor d = some ty) (hn : narrow ty w = w) (hf : fits ty w = true)
    (H : Hp Z n0 T.heap L) (hi : L[i]? = some (a, ObC Z C fs)) (hj : fs[jx]? = some (O, n, d, v)) (hd : decode bytes pc = .ok (.putfield ix, 3)) (hpc : pc + 3 = pc') {L' : List HRow} (hL : L.set i (a, ObC Z C (fs.set jx (O, n, d, w))) = L')
    (K : ∀ T', Wk Z y bytes ml ret n0 p l e R s m args below meth c T' kc ks → Hp Z n0 T'.heap L' → Goes p e below E (T'.setTop (mkF m pc' ls st))) : Goes p e below E (T.setTop (mkF m pc ls (w :: .ref a :: st))) := by
  subst hpc hL
  have hx := W.hx; have hby := W.hby; have hown := W.hown; have hZ := W.hZ; have hnm := W.hnm
  obtain ⟨A, locs, X, N⟩ := W
  obtain ⟨hn0, cl, q1, q2⟩ := H.get hi
  have F := (q2.2.2.2.1 _ (List.mem_of_getElem? hj)).fld q1 q2.2.1 q2.2.2.1
  obtain ⟨T', h', X', e', Wr', st'⟩ := putF X hx hZ hown (host := "") (Or.inl wd) via rfl F (q2.exa q1) (wl.imp id fun q => ⟨q.1, q.2.1, hnm.trans q.2.2⟩) wi hty hn hf (g := mkF m pc ls (w :: .ref a :: st)) rfl rfl (hb hby hd)
  obtain ⟨cl', g1, -, -, rfl⟩ := Wr'
  cases q1.symm.trans g1
  exact (K T' ⟨A, _, X', Fr.snoc X' N hn0⟩ (by rw [e']; exact H.put hi (q2.put hj))).back st'
theorem g_new (W : Wk Z y bytes ml ret n0 p l e R s m args below meth c T kc ks) {ix nn : Nat} (w : (Cond.classLink y.cls ix C).before a0 Z = true) (wi : (Cond.instantiable C nn).before a0 Z = true) (wz : (Cond.initialized C).before a0 Z = true) (la : LaidAll Z a0 C fs) (nd : (fs.map (·.2.1)).Nodup) (H : Hp Z n0 T.heap L) (hd : decode bytes pc = .ok (.new ix, 3)) (hpc : pc + 3 = pc')
    {kc' ks' : Nat} (hkc : kc + 1 = kc') (hks : ks + nn = ks') (hc : kc' ≤ R.cells) (hl : ks' ≤ R.slots)
    (K : ∀ T' a, Wk Z y bytes ml ret n0 p l e R s m args below meth c T' kc' ks' → Hp Z n0 T'.heap ((a, ObC Z C fs) :: L) → Goes p e below E (T'.setTop (mkF m pc' ls (.ref a :: st)))) : Goes p e below E (T.setTop (mkF m pc ls st)) := by
  subst hpc hkc hks
  have hx := W.hx; have hby := W.hby; have hown := W.hown; have hZ := W.hZ
  obtain ⟨A, locs, X, N⟩ := W
  obtain ⟨T', h', X', e', E', X1, D, ⟨cell, hcell, hvm, -⟩, st'⟩ := newO X hx hZ hown w wi wz rfl (g := mkF m pc ls st) rfl (hb hby hd) hc hl
  have hob : ObC Z C fs cell := by
    obtain ⟨cell', k', g1, g2, g3, g4, g5⟩ := X1
    cases hcell.symm.trans g1
    refine ⟨⟨k', g2, g3, g5⟩, by rw [hvm]; simp, g4, fun f hf => ?_, la.slots nd⟩
    obtain ⟨Lf, t, ht, hv⟩ := la f hf
    obtain ⟨c2, cf, kf, ii, fd, r1, r2, r3, -, -, r6, r7⟩ := D Lf ht
    cases hcell.symm.trans r1
    exact ⟨cf, kf, ii, fd, r2, r3, r6, by rw [hv]; exact r7⟩
  exact (K T' T.heap.size ⟨A, locs, X', N⟩ (by rw [e']; exact H.push E' hcell hob)).back st'
theorem g_initO (W : Wk Z y bytes ml ret n0 p l e R s m args below meth c T kc ks) {ix : Nat} (w1 : (Cond.methodLink y.cls ix Lib.objectInit).before a0 Z = true) (w2 : (Cond.instanceMethod Lib.objectInit).before a0 Z = true) (w3 : (Cond.code Lib.objectInit ⟨#[0xb1]⟩ 1 none).before a0 Z = true) (H : Hp Z n0 T.heap L) (hls : ls.size = ml) (hd : decode bytes pc = .ok (.invokespecial ix, 3)) (hpc : pc + 3 = pc')
    (hf : 1 ≤ R.frames) {Wn : Nat} (hW : (st.map fun v => v.category).sum ≤ Wn) (hl : Wn + 12 ≤ R.locals)
    (K : ∀ T', Wk Z y bytes ml ret n0 p l e R s m args below meth c T' kc ks → Hp Z n0 T'.heap L → Goes p e below E (T'.setTop (mkF m pc' ls st))) : Goes p e below E (T.setTop (mkF m pc ls (.ref a :: st))) := by
  subst hpc
  have hx := W.hx; have hby := W.hby; have hown := W.hown; have hZ := W.hZ; have hml := W.hml
  obtain ⟨A, locs, X, N⟩ := W
  obtain ⟨T', X', e', st'⟩ := initO X hx hZ hown w1 w2 w3 rfl (g := mkF m pc ls (.ref a :: st)) rfl (by rw [hml]; exact hls) rfl (hb hby hd) hf (W := Wn) (by show 2 * 0 + _ ≤ _; omega) hl
  exact (K T' ⟨A, locs, X', N⟩ (e' ▸ H)).back st'
/-! ### arrays -/
theorem ArC.arr (F : ArC Z ty vs cell) (hc : h[a]? = some cell) : Arr Z h a cell ty := ⟨hc, F.1, F.2.1⟩
theorem idx_ok {x : Int32} (hx : x.toInt = (jx : Int)) (F : ArC Z ty vs cell) (hj : jx < vs.length) : ¬ (x < 0 ∨ cell.slots.size ≤ x.toNatClampNeg) := by
  rw [F.2.2.1]
  have e0 : (0 : Int32).toInt = 0 := rfl
  simp only [Int32.lt_iff_toInt_lt, Int32.toNatClampNeg, List.size_toArray, e0, hx]; omega
theorem idx_nat {x : Int32} (hx : x.toInt = (jx : Int)) : x.toNatClampNeg = jx := by simp only [Int32.toNatClampNeg, hx]; omega
theorem g_newarr (W : Wk Z y bytes ml ret n0 p l e R s m args below meth c T kc ks) {aty : ArrayType} (w : (Cond.arrayClass (newarray.typeOf aty)).before a0 Z = true) (H : Hp Z n0 T.heap L) {x : Int32} (hx0 : ¬ x < 0) (hvs : List.replicate x.toNatClampNeg (defaultValue (newarray.typeOf aty)) = vs) {cap : Nat} (hcap : vs.length ≤ cap) (hcb : cap * 8 ≤ 536870912) (hd : decode bytes pc = .ok (.newarray aty, 2)) (hpc : pc + 2 = pc')
    {kc' ks' : Nat} (hkc : kc + 1 = kc') (hks : ks + cap = ks') (hc : kc' ≤ R.cells) (hl : ks' ≤ R.slots)
    (K : ∀ T' a, Wk Z y bytes ml ret n0 p l e R s m args below meth c T' kc' ks' → Hp Z n0 T'.heap ((a, ArC Z (newarray.typeOf aty) vs) :: L) → Goes p e below E (T'.setTop (mkF m pc' ls (.ref a :: st)))) : Goes p e below E (T.setTop (mkF m pc ls (.int x :: st))) := by
  subst hpc hkc hks hvs
  have hx := W.hx; have hby := W.hby; have hZ := W.hZ
  obtain ⟨A, locs, X, N⟩ := W
  rw [List.length_replicate] at hcap
  obtain ⟨T', h', cA, X', e', E', A1, st'⟩ := newP X hx hZ w rfl (g := mkF m pc ls (.int x :: st)) rfl (hb hby hd) rfl hx0 hcap hcb hc hl
  have hl31 : (List.replicate x.toNatClampNeg (defaultValue (newarray.typeOf aty))).length < 2 ^ 31 := by rw [List.length_replicate]; omega
  exact (K T' T.heap.size ⟨A, locs, X', N⟩ (by rw [e']; exact H.push E' A1.1 ⟨A1.2.1, A1.2.2, by simp [newA], hl31⟩)).back st'
theorem g_arrlen (W : Wk Z y bytes ml ret n0 p l e R s m args below meth c T kc ks) (H : Hp Z n0 T.heap L) (hi : L[i]? = some (a, ArC Z ty vs)) {x : Int32} (hx : vs.length.toInt32 = x) (hd : decode bytes pc = .ok (.arraylength, 1)) (hpc : pc + 1 = pc') (K : Goes p e below E (T.setTop (mkF m pc' ls (.int x :: st)))) : Goes p e below E (T.setTop (mkF m pc ls (.ref a :: st))) := by
  subst hpc hx
  have hx := W.hx; have hby := W.hby; have hZ := W.hZ
  obtain ⟨A, locs, X, N⟩ := W
  obtain ⟨-, cl, q1, q2⟩ := H.get hi
  refine K.back fun t r => X.arraylength hx q1 (State.isArrayOf_alike hZ.alike q2.1) (g := mkF m pc ls (.ref a :: st)) rfl rfl (hb hby hd) t ?_
  have e : cl.slots.size = vs.length := by rw [q2.2.2.1]; simp
  rw [e]; exact r
theorem g_iaload (W : Wk Z y bytes ml ret n0 p l e R s m args below meth c T kc ks) (H : Hp Z n0 T.heap L) (hi : L[i]? = some (a, ArC Z .int vs)) {x : Int32} (hx : x.toInt = (jx : Int)) (hv : vs[jx]? = some v) (hd : decode bytes pc = .ok (.iaload, 1)) (hpc : pc + 1 = pc') (K : Goes p e below E (T.setTop (mkF m pc' ls (v :: st)))) : Goes p e below E (T.setTop (mkF m pc ls (.int x :: .ref a :: st))) := by
  subst hpc
  have hxx := W.hx; have hby := W.hby; have hZ := W.hZ
  obtain ⟨A, locs, X, N⟩ := W
  obtain ⟨-, cl, q1, q2⟩ := H.get hi
  exact K.back fun t r => X.iaload hxx q1 (State.isArrayOf_alike hZ.alike q2.1) q2.2.1 (idx_ok hx q2 (List.getElem?_eq_some_iff.mp hv).1) (by rw [idx_nat hx, q2.2.2.1]; simpa using hv) (g := mkF m pc ls (.int x :: .ref a :: st)) rfl rfl (hb hby hd) t r
theorem g_laload (W : Wk Z y bytes ml ret n0 p l e R s m args below meth c T kc ks) (H : Hp Z n0 T.heap L) (hi : L[i]? = some (a, ArC Z .long vs)) {x : Int32} (hx : x.toInt = (jx : Int)) (hv : vs[jx]? = some v) (hd : decode bytes pc = .ok (.laload, 1)) (hpc : pc + 1 = pc') (K : Goes p e below E (T.setTop (mkF m pc' ls (v :: st)))) : Goes p e below E (T.setTop (mkF m pc ls (.int x :: .ref a :: st))) := by
  subst hpc
  have hxx := W.hx; have hby := W.hby; have hZ := W.hZ
  obtain ⟨A, locs, X, N⟩ := W
  obtain ⟨-, cl, q1, q2⟩ := H.get hi
  exact K.back fun t r => X.laload hxx q1 (State.isArrayOf_alike hZ.alike q2.1) q2.2.1 (idx_ok hx q2 (List.getElem?_eq_some_iff.mp hv).1) (by rw [idx_nat hx, q2.2.2.1]; simpa using hv) (g := mkF m pc ls (.int x :: .ref a :: st)) rfl rfl (hb hby hd) t r
theorem g_daload (W : Wk Z y bytes ml ret n0 p l e R s m args below meth c T kc ks) (H : Hp Z n0 T.heap L) (hi : L[i]? = some (a, ArC Z .double vs)) {x : Int32} (hx : x.toInt = (jx : Int)) (hv : vs[jx]? = some v) (hd : decode bytes pc = .ok (.daload, 1)) (hpc : pc + 1 = pc') (K : Goes p e below E (T.setTop (mkF m pc' ls (v :: st)))) : Goes p e below E (T.setTop (mkF m pc ls (.int x :: .ref a :: st))) := by
  subst hpc
  have hxx := W.hx; have hby := W.hby; have hZ := W.hZ
  obtain ⟨A, locs, X, N⟩ := W
  obtain ⟨-, cl, q1, q2⟩ := H.get hi
  exact K.back fun t r => X.daload hxx q1 (State.isArrayOf_alike hZ.alike q2.1) q2.2.1 (idx_ok hx q2 (List.getElem?_eq_some_iff.mp hv).1) (by rw [idx_nat hx, q2.2.2.1]; simpa using hv) (g := mkF m pc ls (.int x :: .ref a :: st)) rfl rfl (hb hby hd) t r
theorem g_iastore (W : Wk Z y bytes ml ret n0 p l e R s m args below meth c T kc ks) (H : Hp Z n0 T.heap L) (hi : L[i]? = some (a, ArC Z .int vs)) {x : Int32} {u : Int32} (hx : x.toInt = (jx : Int)) (hj : jx < vs.length) (hd : decode bytes pc = .ok (.iastore, 1)) (hpc : pc + 1 = pc') {L' : List HRow} (hL : L.set i (a, ArC Z .int (vs.set jx (.int u))) = L')
    (K : ∀ T', Wk Z y bytes ml ret n0 p l e R s m args below meth c T' kc ks → Hp Z n0 T'.heap L' → Goes p e below E (T'.setTop (mkF m pc' ls st))) : Goes p e below E (T.setTop (mkF m pc ls (.int u :: .int x :: .ref a :: st))) := by
  subst hpc hL
  have hxx := W.hx; have hby := W.hby; have hZ := W.hZ
  obtain ⟨A, locs, X, N⟩ := W
  obtain ⟨hn0, cl, q1, q2⟩ := H.get hi
  obtain ⟨T', h', X', e', Wr', st'⟩ := stI X hxx hZ rfl (q2.arr q1) (idx_ok hx q2 hj) (g := mkF m pc ls (.int u :: .int x :: .ref a :: st)) rfl rfl (hb hby hd)
  obtain ⟨cl', g1, -, -, rfl⟩ := Wr'
  cases q1.symm.trans g1
  have hsl : (cl.setSlot x.toNatClampNeg (.int u)).slots = (vs.set jx (.int u)).toArray := by rw [idx_nat hx]; show cl.slots.setIfInBounds jx _ = _; rw [q2.2.2.1]; simp
  exact (K T' ⟨A, _, X', Fr.snoc X' N hn0⟩ (by rw [e']; exact H.put hi ⟨q2.1, q2.2.1, hsl, by rw [List.length_set]; exact q2.2.2.2⟩)).back st'
theorem g_lastore (W : Wk Z y bytes ml ret n0 p l e R s m args below meth c T kc ks) (H : Hp Z n0 T.heap L) (hi : L[i]? = some (a, ArC Z .long vs)) {x : Int32} {u : Int64} (hx : x.toInt = (jx : Int)) (hj : jx < vs.length) (hd : decode bytes pc = .ok (.lastore, 1)) (hpc : pc + 1 = pc') {L' : List HRow} (hL : L.set i (a, ArC Z .long (vs.set jx (.long u))) = L')
    (K : ∀ T', Wk Z y bytes ml ret n0 p l e R s m args below meth c T' kc ks → Hp Z n0 T'.heap L' → Goes p e below E (T'.setTop (mkF m pc' ls st))) : Goes p e below E (T.setTop (mkF m pc ls (.long u :: .int x :: .ref a :: st))) := by
  subst hpc hL
  have hxx := W.hx; have hby := W.hby; have hZ := W.hZ
  obtain ⟨A, locs, X, N⟩ := W
  obtain ⟨hn0, cl, q1, q2⟩ := H.get hi
  obtain ⟨T', h', X', e', Wr', st'⟩ := stJ X hxx hZ rfl (q2.arr q1) (idx_ok hx q2 hj) (g := mkF m pc ls (.long u :: .int x :: .ref a :: st)) rfl rfl (hb hby hd)
  obtain ⟨cl', g1, -, -, rfl⟩ := Wr'
  cases q1.symm.trans g1
  have hsl : (cl.setSlot x.toNatClampNeg (.long u)).slots = (vs.set jx (.long u)).toArray := by rw [idx_nat hx]; show cl.slots.setIfInBounds jx _ = _; rw [q2.2.2.1]; simp
  exact (K T' ⟨A, _, X', Fr.snoc X' N hn0⟩ (by rw [e']; exact H.put hi ⟨q2.1, q2.2.1, hsl, by rw [List.length_set]; exact q2.2.2.2⟩)).back st'
theorem g_dastore (W : Wk Z y bytes ml ret n0 p l e R s m args below meth c T kc ks) (H : Hp Z n0 T.heap L) (hi : L[i]? = some (a, ArC Z .double vs)) {x : Int32} {u : UInt64} (hx : x.toInt = (jx : Int)) (hj : jx < vs.length) (hd : decode bytes pc = .ok (.dastore, 1)) (hpc : pc + 1 = pc') {L' : List HRow} (hL : L.set i (a, ArC Z .double (vs.set jx (.double u))) = L')
    (K : ∀ T', Wk Z y bytes ml ret n0 p l e R s m args below meth c T' kc ks → Hp Z n0 T'.heap L' → Goes p e below E (T'.setTop (mkF m pc' ls st))) : Goes p e below E (T.setTop (mkF m pc ls (.double u :: .int x :: .ref a :: st))) := by
  subst hpc hL
  have hxx := W.hx; have hby := W.hby; have hZ := W.hZ
  obtain ⟨A, locs, X, N⟩ := W
  obtain ⟨hn0, cl, q1, q2⟩ := H.get hi
  obtain ⟨T', h', X', e', Wr', st'⟩ := stD X hxx hZ rfl (q2.arr q1) (idx_ok hx q2 hj) (g := mkF m pc ls (.double u :: .int x :: .ref a :: st)) rfl rfl (hb hby hd)
  obtain ⟨cl', g1, -, -, rfl⟩ := Wr'
  cases q1.symm.trans g1
  have hsl : (cl.setSlot x.toNatClampNeg (.double u)).slots = (vs.set jx (.double u)).toArray := by rw [idx_nat hx]; show cl.slots.setIfInBounds jx _ = _; rw [q2.2.2.1]; simp
  exact (K T' ⟨A, _, X', Fr.snoc X' N hn0⟩ (by rw [e']; exact H.put hi ⟨q2.1, q2.2.1, hsl, by rw [List.length_set]; exact q2.2.2.2⟩)).back st'
end Heap
/-! ### calls by contract -/
section Calls
variable {y' : MethodName} {bytes' : ByteArray} {ml' : Nat} {ret' : Option FieldType} {rm : Room} {Post : Option Value → Heap → Prop} {argsL stk : List Value} {ix : Nat} {Wn kc' ks' : Nat} {ps : List FieldType} {rt : Option FieldType}
theorem g_callS (W : Wk Z y bytes ml ret n0 p l e R s m args below meth c T kc ks) (w1 : (Cond.methodLink y.cls ix y').before a0 Z = true) (w2 : (Cond.static y').before a0 Z = true) (w3 : (Cond.initialized y'.cls).before a0 Z = true) (w4 : (Cond.code y' bytes' ml' ret').before a0 Z = true) (hy : y'.cls ≠ "java/lang/invoke/MethodHandle" ∧ y'.cls ≠ "java/lang/invoke/VarHandle")
    (con : Con l Z n0 y' [] bytes' ml' ret' rm argsL.toArray T.heap Post) (hpd : parseMethodDescriptor y'.desc = some ⟨ps, rt⟩) (hlen : argsL.length = ps.length) (hstk : stk = argsL.reverse ++ st) (hls : ls.size = ml) (hd : decode bytes pc = .ok (.invokestatic ix, 3)) (hpc : pc + 3 = pc')
    (hf : rm.frames + 1 ≤ R.frames) (hW : (st.map fun v => v.category).sum ≤ Wn) (hl : Wn + (ml' + 11) + rm.locals ≤ R.locals) (hkc : kc + rm.cells = kc') (hks : ks + rm.slots = ks') (hc : kc' ≤ R.cells) (hs : ks' ≤ R.slots)
    (K : ∀ T' v, Wk Z y bytes ml ret n0 p l e R s m args below meth c T' kc' ks' → Post v T'.heap → Goes p e below E (T'.setTop (mkF m pc' ls (v.toList ++ st)))) : Goes p e below E (T.setTop (mkF m pc ls stk)) := by
  subst hpc hkc hks hstk
  have hx := W.hx; have hby := W.hby; have hown := W.hown; have hZ := W.hZ; have hml := W.hml
  obtain ⟨A, locs, X, N⟩ := W
  obtain ⟨v, vm1, ⟨T', L', kk, jj⟩, -, X', ⟨Lc, ⟨hN, hQ⟩, l1, l2, l3⟩, st'⟩ := Jvm.LawKit.callS X hx hown (mvT hZ w1) (mvT hZ w2) (mvT hZ w3) (mvT hZ w4) hy (backOf (Q := fun v h L => Fr n0 L ∧ Post v h) (W := Wn) con hZ w4 w3 hf hl) (g := mkF m pc ls (argsL.reverse ++ st)) rfl (by rw [hml]; exact hls) (argsL := argsL) (rest := st) (lenOf hpd hlen) rfl (by show 2 * 0 + _ ≤ _; omega) (hb hby hd) (fun _ _ => ⟨rfl, rfl, hc, hs⟩)
  dsimp only [Pt.U, Pt.locs, Pt.cells, Pt.slots] at X' l1 l2 l3 hQ st'
  subst l1 l2 l3
  exact (K T' v ⟨A, _, X', N.app hN⟩ hQ).back st'
theorem g_callI (W : Wk Z y bytes ml ret n0 p l e R s m args below meth c T kc ks) (hin : y'.name = "<init>") (w1 : (Cond.methodLink y.cls ix y').before a0 Z = true) (w2 : (Cond.instanceMethod y').before a0 Z = true) (w3 : (Cond.initialized y'.cls).before a0 Z = true) (w4 : (Cond.code y' bytes' ml' none).before a0 Z = true) (hy : y'.cls ≠ "java/lang/invoke/MethodHandle" ∧ y'.cls ≠ "java/lang/invoke/VarHandle")
    {a : Addr} (con : Con l Z n0 y' [] bytes' ml' none rm (.ref a :: argsL).toArray T.heap Post) (hpd : parseMethodDescriptor y'.desc = some ⟨ps, rt⟩) (hlen : argsL.length = ps.length) (hstk : stk = argsL.reverse ++ .ref a :: st) (hls : ls.size = ml) (hd : decode bytes pc = .ok (.invokespecial ix, 3)) (hpc : pc + 3 = pc')
    (hf : rm.frames + 1 ≤ R.frames) (hW : (st.map fun v => v.category).sum ≤ Wn) (hl : Wn + (ml' + 11) + rm.locals ≤ R.locals) (hkc : kc + rm.cells = kc') (hks : ks + rm.slots = ks') (hc : kc' ≤ R.cells) (hs : ks' ≤ R.slots)
    (K : ∀ T' v, Wk Z y bytes ml ret n0 p l e R s m args below meth c T' kc' ks' → Post v T'.heap → Goes p e below E (T'.setTop (mkF m pc' ls (v.toList ++ st)))) : Goes p e below E (T.setTop (mkF m pc ls stk)) := by
  subst hpc hkc hks hstk
  have hx := W.hx; have hby := W.hby; have hown := W.hown; have hZ := W.hZ; have hml := W.hml
  obtain ⟨A, locs, X, N⟩ := W
  obtain ⟨v, vm1, ⟨T', L', kk, jj⟩, -, X', ⟨Lc, ⟨hN, hQ⟩, l1, l2, l3⟩, st'⟩ := X.specialBack hx (y := y') hin hown (mvT hZ w1) (mvT hZ w2) (mvT hZ w4) hy (backOf (Q := fun v h L => Fr n0 L ∧ Post v h) (W := Wn) con hZ w4 w3 hf hl) (g := mkF m pc ls (argsL.reverse ++ .ref a :: st)) rfl (by rw [hml]; exact hls) (Steps.refl _) (a := a) (argsL := argsL) (rest := st) (lenOf hpd hlen) rfl (by show 2 * 0 + _ ≤ _; omega) (hb hby hd) (fun _ _ => ⟨rfl, rfl, hc, hs⟩)
  dsimp only [Pt.U, Pt.locs, Pt.cells, Pt.slots] at X' l1 l2 l3 hQ st'
  subst l1 l2 l3
  exact (K T' v ⟨A, _, X', N.app hN⟩ hQ).back fun t r => st'.trans r
theorem g_callV (W : Wk Z y bytes ml ret n0 p l e R s m args below meth c T kc ks) {C : String} {fs : List FR} {L : List HRow} {i : Nat} (w1 : (Cond.methodLink y.cls ix y').before a0 Z = true) (w2 : (Cond.declares y').before a0 Z = true) (w3 : (Cond.selects C y' y').before a0 Z = true) (w4 : (Cond.instanceMethod y').before a0 Z = true) (w5 : (Cond.initialized y'.cls).before a0 Z = true) (w6 : (Cond.code y' bytes' ml' ret').before a0 Z = true) (hy : y'.cls ≠ "java/lang/invoke/MethodHandle" ∧ y'.cls ≠ "java/lang/invoke/VarHandle")
    {a : Addr} (H : Hp Z n0 T.heap L) (hi : L[i]? = some (a, ObC Z C fs)) (con : Con l Z n0 y' [] bytes' ml' ret' rm (.ref a :: argsL).toArray T.heap Post) (hpd : parseMethodDescriptor y'.desc = some ⟨ps, rt⟩) (hlen : argsL.length = ps.length) (hstk : stk = argsL.reverse ++ .ref a :: st) (hls : ls.size = ml) (hd : decode bytes pc = .ok (.invokevirtual ix, 3)) (hpc : pc + 3 = pc')
    (hf : rm.frames + 1 ≤ R.frames) (hW : (st.map fun v => v.category).sum ≤ Wn) (hl : Wn + (ml' + 11) + rm.locals ≤ R.locals) (hkc : kc + rm.cells = kc') (hks : ks + rm.slots = ks') (hc : kc' ≤ R.cells) (hs : ks' ≤ R.slots)
    (K : ∀ T' v, Wk Z y bytes ml ret n0 p l e R s m args below meth c T' kc' ks' → Post v T'.heap → Goes p e below E (T'.setTop (mkF m pc' ls (v.toList ++ st)))) : Goes p e below E (T.setTop (mkF m pc ls stk)) := by
  subst hpc hkc hks hstk
  have hx := W.hx; have hby := W.hby; have hown := W.hown; have hZ := W.hZ; have hml := W.hml
  obtain ⟨A, locs, X, N⟩ := W
  obtain ⟨-, cl, q1, q2⟩ := H.get hi
  obtain ⟨cB, kB, b1, b2, b3⟩ := isOf hZ rfl (q2.exa q1)
  obtain ⟨v, vm1, ⟨T', L', kk, jj⟩, -, X', ⟨Lc, ⟨hN, hQ⟩, l1, l2, l3⟩, st'⟩ := X.virtualBack hx (y := y') hown (mvT hZ w1) (mvT hZ w2) (notFace_of_selects (args := #[]) (mvT hZ w3)) (mvT hZ w3) (mvT hZ w4) hy (backOf (Q := fun v h L => Fr n0 L ∧ Post v h) (W := Wn) con hZ w6 w5 hf hl) b1 b3 (g := mkF m pc ls (argsL.reverse ++ .ref a :: st)) rfl (by rw [hml]; exact hls) (Steps.refl _) (argsL := argsL) (rest := st) (lenOf hpd hlen) rfl (by show 2 * 0 + _ ≤ _; omega) (hb hby hd) (fun _ _ => ⟨rfl, rfl, hc, hs⟩)
  dsimp only [Pt.U, Pt.locs, Pt.cells, Pt.slots] at X' l1 l2 l3 hQ st'
  subst l1 l2 l3
  exact (K T' v ⟨A, _, X', N.app hN⟩ hQ).back fun t r => st'.trans r
theorem g_callP (W : Wk Z y bytes ml ret n0 p l e R s m args below meth c T kc ks) {C : String} {fs : List FR} {L : List HRow} {i nn : Nat} (w1 : (Cond.methodLink y.cls ix y').before a0 Z = true) (w2 : (Cond.instanceMethod y').before a0 Z = true) (w3 : (Cond.privateMethod y').before a0 Z = true) (w4 : (Cond.instantiable y'.cls nn).before a0 Z = true) (w5 : (Cond.initialized y'.cls).before a0 Z = true) (w6 : (Cond.code y' bytes' ml' ret').before a0 Z = true) (hy : y'.cls ≠ "java/lang/invoke/MethodHandle" ∧ y'.cls ≠ "java/lang/invoke/VarHandle")
    {a : Addr} (H : Hp Z n0 T.heap L) (hi : L[i]? = some (a, ObC Z C fs)) (con : Con l Z n0 y' [] bytes' ml' ret' rm (.ref a :: argsL).toArray T.heap Post) (hpd : parseMethodDescriptor y'.desc = some ⟨ps, rt⟩) (hlen : argsL.length = ps.length) (hstk : stk = argsL.reverse ++ .ref a :: st) (hls : ls.size = ml) (hd : decode bytes pc = .ok (.invokevirtual ix, 3)) (hpc : pc + 3 = pc')
    (hf : rm.frames + 1 ≤ R.frames) (hW : (st.map fun v => v.category).sum ≤ Wn) (hl : Wn + (ml' + 11) + rm.locals ≤ R.locals) (hkc : kc + rm.cells = kc') (hks : ks + rm.slots = ks') (hc : kc' ≤ R.cells) (hs : ks' ≤ R.slots)
    (K : ∀ T' v, Wk Z y bytes ml ret n0 p l e R s m args below meth c T' kc' ks' → Post v T'.heap → Goes p e below E (T'.setTop (mkF m pc' ls (v.toList ++ st)))) : Goes p e below E (T.setTop (mkF m pc ls stk)) := by
  subst hpc hkc hks hstk
  have hx := W.hx; have hby := W.hby; have hown := W.hown; have hZ := W.hZ; have hml := W.hml
  obtain ⟨A, locs, X, N⟩ := W
  obtain ⟨-, cl, q1, q2⟩ := H.get hi
  have hst : ∀ q, cl.vm ≠ .statics q := fun q hq => by have := q2.2.2.1; rw [hq] at this; cases this
  obtain ⟨mk, methM, hnamed, hmethM, hstM, habM⟩ := Cond.instanceMethod_spec (args := #[]) (mvT hZ w2)
  obtain ⟨methM', cM, hmethM', -, -, -, -, -, -, hsigM⟩ := Cond.code_spec (args := #[]) hnamed (mvT hZ w6)
  cases hmethM.symm.trans hmethM'
  obtain ⟨cP0, kP, hf1, hkP, -, hkPi, -⟩ := Cond.instantiable_spec (mvT hZ w4 (args := #[]))
  cases (findClass_of_methodNamed hnamed).symm.trans hf1
  have hkPi' : kP.isInterface = false := (Bool.or_eq_false_iff.mp hkPi).1
  have hselP : selectMethod e.platform s.vm cl.cls mk = .method mk := selectMethod_private hmethM (Cond.privateMethod_at (mvP hZ w3 (args := #[])) mk methM hnamed hmethM)
  obtain ⟨vm1, X1, hstep1⟩ := X.invokevirtual hx hown (mvT hZ w1) hnamed hmethM hstM hkP hkPi' hy (a := a) (cell := cl) q1 hst hselP hmethM habM hkP hkPi' (g := mkF m pc ls (argsL.reverse ++ .ref a :: st)) rfl (argsL := argsL) (rest := st) (lenOf hpd hlen _ hsigM) rfl (hb hby hd)
  obtain ⟨v, ⟨T', L', kk, jj⟩, X', ⟨Lc, ⟨hN, hQ⟩, l1, l2, l3⟩, st'⟩ := (backOf (Q := fun v h L => Fr n0 L ∧ Post v h) (W := Wn) (len := 3) (p := p) (e := e) (below := below) (args := args) con hZ w6 w5 hf hl) m meth c ⟨T.setVm vm1, locs, kc, ks⟩ (mkF m pc ls st) (.invokevirtual ix) mk (.ref a :: argsL).toArray X1 rfl (by rw [hml]; exact hls) (hb hby hd) (by show 2 * 0 + (st.map fun v => v.category).sum ≤ Wn; omega) (X1.named hnamed) ⟨rfl, rfl, hc, hs⟩
  dsimp only [Pt.U, Pt.locs, Pt.cells, Pt.slots] at X' l1 l2 l3 hQ st'
  subst l1 l2 l3
  exact (K T' v ⟨A, _, X', N.app hN⟩ hQ).back fun t r => ((hstep1 _ fun acts => by rw [doInvoke_state]; exact Steps.refl _).trans st').trans r
end Calls
end Laws
end Jvm.OwnKit


@@BLOCK:NumsL.lean.txt@@
namespace Jvm.OwnKit
open Jvm.Free
/-! ### ints -/
theorem i32_zero {x : Int32} : x.toInt = 0 ↔ x = 0 := ⟨fun h => Int32.toInt_inj.mp (h.trans (by decide)), fun h => by rw [h]; decide⟩
theorem i32_lit {x y : Int32} {k : Int} (h : x.toInt = k) (hy : y.toInt = k) : x = y := Int32.toInt_inj.mp (h.trans hy.symm)
theorem and1 (x : Int32) : x &&& 1 = 0 ∨ x &&& 1 = 1 := by
  have h := Kit.i32_mask x 1 (k := 1) (by decide) (by decide)
  have q : (x &&& 1).toInt = 0 ∨ (x &&& 1).toInt = 1 := by omega
  rcases q with q | q
  · exact Or.inl (i32_lit q (by decide))
  · exact Or.inr (i32_lit q (by decide))
theorem and3 (x : Int32) : x &&& 3 = 0 ∨ x &&& 3 = 1 ∨ x &&& 3 = 2 ∨ x &&& 3 = 3 := by
  have h := Kit.i32_mask x 3 (k := 2) (by decide) (by decide)
  have q : (x &&& 3).toInt = 0 ∨ (x &&& 3).toInt = 1 ∨ (x &&& 3).toInt = 2 ∨ (x &&& 3).toInt = 3 := by omega
  rcases q with q | q | q | q
  · exact Or.inl (i32_lit q (by decide))
  · exact Or.inr (Or.inl (i32_lit q (by decide)))
  · exact Or.inr (Or.inr (Or.inl (i32_lit q (by decide))))
  · exact Or.inr (Or.inr (Or.inr (i32_lit q (by decide))))
theorem i32_remW (x y : Int32) : (x - (x / y) * y).toInt = x.toInt.tmod y.toInt := by
  have a := (x % y).toInt_lt; have b := (x % y).le_toInt
  rw [Int32.toInt_mod] at a b
  rw [Int32.toInt_sub, Int32.toInt_mul, Int32.toInt_div, Int.bmod_mul_bmod, Int.sub_bmod_bmod, Int.mul_comm, ← Int.tmod_def]
  exact Kit.bmod32 b a
theorem i32_remN {x y : Int32} (hx : 0 ≤ x.toInt) : (x - (x / y) * y).toInt = x.toInt % y.toInt := by rw [i32_remW, Int.tmod_eq_emod_of_nonneg hx]
theorem lt1 {j : Int32} (h : ¬ j < 0) (h2 : j < 1) : j = 0 := by
  rw [Int32.lt_iff_toInt_lt] at h h2
  have e0 : (0 : Int32).toInt = 0 := by decide
  have e1 : (1 : Int32).toInt = 1 := by decide
  exact i32_lit (k := 0) (by omega) e0
theorem lt2 {j : Int32} (h : ¬ j < 0) (h2 : j < 2) : j = 0 ∨ j = 1 := by
  rw [Int32.lt_iff_toInt_lt] at h h2
  have e0 : (0 : Int32).toInt = 0 := by decide
  have e1 : (2 : Int32).toInt = 2 := by decide
  have q : j.toInt = 0 ∨ j.toInt = 1 := by omega
  rcases q with q | q
  · exact Or.inl (i32_lit q (by decide))
  · exact Or.inr (i32_lit q (by decide))
theorem lt3 {j : Int32} (h : ¬ j < 0) (h2 : j < 3) : j = 0 ∨ j = 1 ∨ j = 2 := by
  rw [Int32.lt_iff_toInt_lt] at h h2
  have e0 : (0 : Int32).toInt = 0 := by decide
  have e1 : (3 : Int32).toInt = 3 := by decide
  have q : j.toInt = 0 ∨ j.toInt = 1 ∨ j.toInt = 2 := by omega
  rcases q with q | q | q
  · exact Or.inl (i32_lit q (by decide))
  · exact Or.inr (Or.inl (i32_lit q (by decide)))
  · exact Or.inr (Or.inr (i32_lit q (by decide)))
theorem lt0 {j : Int32} {P : Prop} (h : ¬ j < 0) (h2 : j < 0) : P := absurd h2 h
theorem cmpL3 (x y : Int64) : (x < y ∧ XT.cmpL x y = -1) ∨ (x = y ∧ XT.cmpL x y = 0) ∨ (y < x ∧ XT.cmpL x y = 1) := by
  have e : XT.cmpL x y = (if y < x then (1 : Int32) else if x = y then 0 else -1) := rfl
  by_cases h1 : y < x
  · exact Or.inr (Or.inr ⟨h1, by rw [e, if_pos h1]⟩)
  · by_cases h2 : x = y
    · exact Or.inr (Or.inl ⟨h2, by rw [e, if_neg h1, if_pos h2]⟩)
    · refine Or.inl ⟨?_, by rw [e, if_neg h1, if_neg h2]⟩
      rw [Int64.lt_iff_toInt_lt] at h1 ⊢
      have : x.toInt ≠ y.toInt := fun q => h2 (Int64.toInt_inj.mp q)
      omega
theorem cmpL_eq0 {x y : Int64} : XT.cmpL x y = 0 ↔ x = y := by
  rcases cmpL3 x y with ⟨h, g⟩ | ⟨h, g⟩ | ⟨h, g⟩ <;> rw [g]
  · exact ⟨fun q => absurd q (by decide), fun q => by subst q; rw [Int64.lt_iff_toInt_lt] at h; omega⟩
  · exact ⟨fun _ => h, fun _ => rfl⟩
  · exact ⟨fun q => absurd q (by decide), fun q => by subst q; rw [Int64.lt_iff_toInt_lt] at h; omega⟩
theorem cmpL_gt0 {x y : Int64} : (0 : Int32) < XT.cmpL x y ↔ y < x := by
  rcases cmpL3 x y with ⟨h, g⟩ | ⟨h, g⟩ | ⟨h, g⟩ <;> rw [g]
  · exact ⟨fun q => absurd q (by decide), fun q => by rw [Int64.lt_iff_toInt_lt] at h q; omega⟩
  · exact ⟨fun q => absurd q (by decide), fun q => by subst h; rw [Int64.lt_iff_toInt_lt] at q; omega⟩
  · exact ⟨fun _ => h, fun _ => by decide⟩
theorem cmpL_lt0 {x y : Int64} : XT.cmpL x y < (0 : Int32) ↔ x < y := by
  rcases cmpL3 x y with ⟨h, g⟩ | ⟨h, g⟩ | ⟨h, g⟩ <;> rw [g]
  · exact ⟨fun _ => h, fun _ => by decide⟩
  · exact ⟨fun q => absurd q (by decide), fun q => by subst h; rw [Int64.lt_iff_toInt_lt] at q; omega⟩
  · exact ⟨fun q => absurd q (by decide), fun q => by rw [Int64.lt_iff_toInt_lt] at h q; omega⟩
end Jvm.OwnKit

namespace Jvm.OwnKit
open Jvm.FP.Core Jvm.Free.Fl Jvm.Op Jvm.ClassFile
/-! ### exact doubles: a is n * 2^e -/
def Dy (n e : Int) (a : UInt64) : Prop := DFin a ∧ zval b64 (val64 a) = n * ((2 ^ (e + 1074).toNat : Nat) : Int)
theorem pw3 {A B X1 Y1 X Y : Nat} (h : A * 2 ^ X1 = B * 2 ^ Y1) (hd : X + Y1 = X1 + Y) : A * 2 ^ X = B * 2 ^ Y := by
  apply Nat.eq_of_mul_eq_mul_right (Nat.two_pow_pos X1)
  calc A * 2 ^ X * 2 ^ X1 = A * 2 ^ X1 * 2 ^ X := by rw [Nat.mul_right_comm]
    _ = B * 2 ^ Y1 * 2 ^ X := by rw [h]
    _ = B * 2 ^ Y * 2 ^ X1 := by rw [Nat.mul_assoc, Nat.mul_assoc, ← Nat.pow_add, ← Nat.pow_add, show Y1 + X = Y + X1 by omega]
theorem rr_exact {s : Bool} {A B n : Nat} {e q : Int} (hB : 0 < B) (hn : n < 2 ^ 53) (h1 : -1074 ≤ q) (h2 : q ≤ 971) (h : A * 2 ^ (e - q).toNat = n * B * 2 ^ (q - e).toNat) :
    ∃ c' q', roundRatio b64 s A B e = .fin s c' q' ∧ inUnits c' q' b64.qmin = n * 2 ^ (q + 1074).toNat := by
  have hc : roundRatio b64 s A B e = roundRatio b64 s n 1 q := roundRatio_congr hB (by decide) (by rw [Nat.mul_one]; exact h)
  obtain ⟨c', q', g1, g2⟩ := round_exact good_b64 s (c := n) (q := q) (show n < 2 ^ 53 from hn) (by rw [qmin_b64]; exact h1) (by rw [show b64.qmax = 971 by decide]; exact h2)
  refine ⟨c', q', hc.trans g1, g2.trans ?_⟩
  unfold inUnits; rw [qmin_b64, show (q - -1074).toNat = (q + 1074).toNat by omega]
theorem dy_rr {a : UInt64} {s : Bool} {A B n : Nat} {e q : Int} (ha : val64 a = roundRatio b64 s A B e) (hB : 0 < B) (hn : n < 2 ^ 53) (h1 : -1074 ≤ q) (h2 : q ≤ 971) (h : A * 2 ^ (e - q).toNat = n * B * 2 ^ (q - e).toNat) : Dy (signed s n) q a := by
  obtain ⟨c', q', g1, g2⟩ := rr_exact (s := s) hB hn h1 h2 h
  rw [g1] at ha
  refine ⟨⟨s, c', q', ha⟩, ?_⟩
  rw [ha]; show signed s (inUnits c' q' b64.qmin) = _; rw [g2, signed_mul]
theorem signed_back {s : Bool} {X P : Nat} {n : Int} (hP : 0 < P) (h : signed s X = n * (P : Int)) : signed s n.natAbs = n := by
  have hP' : (0 : Int) < P := Int.natCast_pos.mpr hP
  cases s
  · have h' : (X : Int) = n * P := h
    have : 0 ≤ n := Int.not_lt.mp fun q => by have := Int.mul_neg_of_neg_of_pos q hP'; omega
    show (n.natAbs : Int) = n; omega
  · have h' : -(X : Int) = n * P := h
    have : n ≤ 0 := Int.not_lt.mp fun q => by have := Int.mul_pos q hP'; omega
    show -(n.natAbs : Int) = n; omega
theorem dy_open {n e : Int} {a : UInt64} (ha : Dy n e a) : ∃ s c q, val64 a = .fin s c q ∧ -1074 ≤ q ∧ Jvm.FP.Core.fits b64 (.fin s c q) ∧ c * 2 ^ (q + 1074).toNat = n.natAbs * 2 ^ (e + 1074).toNat ∧ signed s n.natAbs = n := by
  obtain ⟨⟨s, c, q, hv⟩, hz⟩ := ha
  have hfit := val64_fits a
  rw [hv] at hfit hz
  have hq : -1074 ≤ q := by have := hfit.2.1; rwa [qmin_b64] at this
  have hz1 : signed s (inUnits c q b64.qmin) = n * ((2 ^ (e + 1074).toNat : Nat) : Int) := hz
  have hz2 := congrArg Int.natAbs hz1
  rw [natAbs_signed, Int.natAbs_mul, Int.natAbs_natCast] at hz2
  refine ⟨s, c, q, hv, hq, hfit, ?_, signed_back (Nat.two_pow_pos _) hz1⟩
  rw [← hz2]; unfold inUnits; rw [qmin_b64, show (q - -1074).toNat = (q + 1074).toNat by omega]
theorem quo_fin {s t : Bool} {c d : Nat} {q r : Int} (hd : d ≠ 0) : quotient b64 (.fin s c q) (.fin t d r) = roundRatio b64 (s != t) c d (q - r) := if_neg hd
theorem dy_div {n e k : Int} {a b : UInt64} (ha : Dy n e a) (he : -1074 ≤ e) (hb : val64 b = .fin false (2 ^ 52) (k - 52)) (hn : n.natAbs < 2 ^ 53) (h1 : -1074 ≤ e - k) (h2 : e - k ≤ 971) : Dy n (e - k) (FP.ddiv a b) := by
  obtain ⟨s, c, q, hv, hq, hfit, hz, hs⟩ := dy_open ha
  have hd : val64 (FP.ddiv a b) = roundRatio b64 s c (2 ^ 52) (q - (k - 52)) := by
    rw [show val64 (FP.ddiv a b) = _ from val64_ddiv a b, hv, hb]
    rw [quo_fin (by decide), show (s != false) = s by cases s <;> rfl]
  have := dy_rr hd (n := n.natAbs) (q := e - k) (by decide) hn h1 h2 (by
    rw [Nat.mul_assoc, ← Nat.pow_add]
    exact pw3 hz (by omega))
  rwa [hs] at this
theorem dy_mul {n e m f : Int} {a b : UInt64} (ha : Dy n e a) (hb : Dy m f b) (he : -1074 ≤ e) (hf : -1074 ≤ f) (hn : (n * m).natAbs < 2 ^ 53) (h1 : -1074 ≤ e + f) (h2 : e + f ≤ 971) : Dy (n * m) (e + f) (FP.dmul a b) := by
  obtain ⟨s, c, q, hv, hq, hfit, hz, hs⟩ := dy_open ha
  obtain ⟨t, d, r, hw, hr, hfit2, hz2, ht⟩ := dy_open hb
  have hd : val64 (FP.dmul a b) = roundRatio b64 (s != t) (c * d) 1 (q + r) := by
    rw [show val64 (FP.dmul a b) = _ from val64_dmul a b, hv, hw]; rfl
  have hp : c * d * 2 ^ ((q + 1074).toNat + (r + 1074).toNat) = (n * m).natAbs * 2 ^ ((e + 1074).toNat + (f + 1074).toNat) := by
    rw [Nat.pow_add, Nat.mul_mul_mul_comm, hz, hz2, Int.natAbs_mul, Nat.pow_add, Nat.mul_mul_mul_comm]
  have := dy_rr hd (n := (n * m).natAbs) (q := e + f) (by decide) hn h1 h2 (by
    rw [Nat.mul_one]
    exact pw3 hp (by omega))
  rw [Int.natAbs_mul, signed_xor, hs, ht] at this
  exact this
theorem dy_addG {n e m k : Int} {t : Nat} {a b : UInt64} (ha : Dy n e a) (hb : Dy m e b) (hnm : n + m = k * ((2 ^ t : Nat) : Int)) (hk : k.natAbs < 2 ^ 53) (h1 : -1074 ≤ e) (h2 : e + t ≤ 971) : Dy k (e + t) (FP.dadd a b) := by
  obtain ⟨⟨s, c, q, hv⟩, hz⟩ := ha
  obtain ⟨⟨s2, d, r, hw⟩, hz2⟩ := hb
  have f1 := val64_fits a
  have f2 := val64_fits b
  rw [hv] at f1 hz
  rw [hw] at f2 hz2
  obtain ⟨sg, N, E, g1, g2, g3⟩ := sum_units f1 f2
  rw [qmin_b64] at g2
  rw [hz, hz2, ← Int.add_mul, hnm, Int.mul_assoc, ← Int.natCast_mul, ← Nat.pow_add] at g3
  have hd : val64 (FP.dadd a b) = roundRatio b64 sg N 1 E := by
    rw [show val64 (FP.dadd a b) = _ from val64_dadd a b, hv, hw, g1]; rfl
  have g4 := congrArg Int.natAbs g3
  rw [natAbs_signed, Int.natAbs_mul, Int.natAbs_natCast] at g4
  unfold inUnits at g4
  rw [qmin_b64] at g4
  have := dy_rr hd (n := k.natAbs) (q := e + t) (by decide) hk (by omega) h2 (by
    rw [Nat.mul_one]
    exact pw3 g4 (by omega))
  rwa [signed_back (Nat.two_pow_pos _) g3] at this
theorem dy_add {n e m : Int} {a b : UInt64} (ha : Dy n e a) (hb : Dy m e b) (hn : (n + m).natAbs < 2 ^ 53) (h1 : -1074 ≤ e) (h2 : e ≤ 971) : Dy (n + m) e (FP.dadd a b) := by
  have := dy_addG (t := 0) ha hb (by rw [show ((2 ^ 0 : Nat) : Int) = 1 from rfl, Int.mul_one]) hn h1 (by omega)
  rwa [show e + ((0 : Nat) : Int) = e by omega] at this
theorem dy_re {n e : Int} {a : UInt64} (ha : Dy n e a) (k : Nat) (h : -1074 ≤ e - k) : Dy (n * ((2 ^ k : Nat) : Int)) (e - k) a := by
  refine ⟨ha.1, ha.2.trans ?_⟩
  rw [Int.mul_assoc, ← Int.natCast_mul, ← Nat.pow_add, show k + (e - k + 1074).toNat = (e + 1074).toNat by omega]
theorem dy_fin {a : UInt64} {s : Bool} {c : Nat} {q : Int} (h : val64 a = .fin s c q) : Dy (signed s c) q a := by
  have hf := val64_fits a
  rw [h] at hf
  have hq := hf.2.1
  rw [qmin_b64] at hq
  refine ⟨⟨s, c, q, h⟩, ?_⟩
  rw [h]; show signed s (inUnits c q b64.qmin) = _
  unfold inUnits
  rw [qmin_b64, signed_mul, show (q - -1074).toNat = (q + 1074).toNat by omega]
theorem dy_i2d (x : Int32) : Dy x.toInt 0 (FP.i2d x) := ⟨Jvm.FP.Core.i2d_fin x, DInt_zval (i2d_int x)⟩
theorem dy_l2d {x : Int64} (h : x.toInt.natAbs ≤ 2 ^ 53) : Dy x.toInt 0 (FP.l2d x) := ⟨Jvm.FP.Core.l2d_fin x, DInt_zval (l2d_int h)⟩
theorem dy_zero : Dy 0 0 0 := ⟨⟨false, 0, b64.qmin, val64_zero⟩, by rw [zval64_zero, Int.zero_mul]⟩
theorem Dy.fin {n e : Int} {a : UInt64} (h : Dy n e a) : Fin64 a := fin64_core.mpr h.1
theorem Dy.nn {n e : Int} {a : UInt64} (h : Dy n e a) : NoNaN64 a := h.fin.noNaN
theorem dy_cmp {n m e : Int} {a b : UInt64} (ha : Dy n e a) (hb : Dy m e b) : FP.dcmp a b = some (compare n m) := by
  have := dcmp_zval (DFin.ne_nan ha.1) (DFin.ne_nan hb.1)
  rw [ha.2, hb.2, compare_mul_pos _ _ _ (Int.natCast_pos.mpr (Nat.two_pow_pos _))] at this
  exact this
theorem cv_lt {n m : Int} (h : n < m) (o : CmpOp) : cmpValue (some (compare n m)) o = -1 := by rw [(compare_lt_iff n m).mpr h]; rfl
theorem cv_eq {n m : Int} (h : n = m) (o : CmpOp) : cmpValue (some (compare n m)) o = 0 := by rw [(compare_eq_iff n m).mpr h]; rfl
theorem cv_gt {n m : Int} (h : m < n) (o : CmpOp) : cmpValue (some (compare n m)) o = 1 := by rw [(compare_gt_iff n m).mpr h]; rfl
theorem cv3 (n m : Int) (o : CmpOp) : (n < m ∧ cmpValue (some (compare n m)) o = -1) ∨ (n = m ∧ cmpValue (some (compare n m)) o = 0) ∨ (m < n ∧ cmpValue (some (compare n m)) o = 1) := by
  rcases Int.lt_trichotomy n m with h | h | h
  · exact Or.inl ⟨h, cv_lt h o⟩
  · exact Or.inr (Or.inl ⟨h, cv_eq h o⟩)
  · exact Or.inr (Or.inr ⟨h, cv_gt h o⟩)
theorem dy_eq0 {n m e : Int} {a b : UInt64} (ha : Dy n e a) (hb : Dy m e b) (o : CmpOp) : cmpValue (FP.dcmp a b) o = 0 ↔ n = m := by
  rw [dy_cmp ha hb]; rcases cv3 n m o with ⟨h, g⟩ | ⟨h, g⟩ | ⟨h, g⟩ <;> rw [g]
  · exact ⟨fun q => absurd q (by decide), fun q => by omega⟩
  · exact ⟨fun _ => h, fun _ => rfl⟩
  · exact ⟨fun q => absurd q (by decide), fun q => by omega⟩
theorem dy_gt0 {n m e : Int} {a b : UInt64} (ha : Dy n e a) (hb : Dy m e b) (o : CmpOp) : 0 < cmpValue (FP.dcmp a b) o ↔ m < n := by
  rw [dy_cmp ha hb]; rcases cv3 n m o with ⟨h, g⟩ | ⟨h, g⟩ | ⟨h, g⟩ <;> rw [g]
  · exact ⟨fun q => absurd q (by decide), fun q => by omega⟩
  · exact ⟨fun q => absurd q (by decide), fun q => by omega⟩
  · exact ⟨fun _ => h, fun _ => by decide⟩
theorem dy_lt0 {n m e : Int} {a b : UInt64} (ha : Dy n e a) (hb : Dy m e b) (o : CmpOp) : cmpValue (FP.dcmp a b) o < 0 ↔ n < m := by
  rw [dy_cmp ha hb]; rcases cv3 n m o with ⟨h, g⟩ | ⟨h, g⟩ | ⟨h, g⟩ <;> rw [g]
  · exact ⟨fun _ => h, fun _ => by decide⟩
  · exact ⟨fun q => absurd q (by decide), fun q => by omega⟩
  · exact ⟨fun q => absurd q (by decide), fun q => by omega⟩
end Jvm.OwnKit

namespace Jvm.Pilot.@@N@@
open Jvm Jvm.ClassFile Sem Op Lib Jvm.Free Jvm.Stand Jvm.LawKit Jvm.RoadKit Jvm.OwnKit Jvm.Free.Fl Bundle Jvm.Pilot.@@N@@.Jvm.D
theorem wd_0 {Z : State} {a0 : Array Value} (hw : ∀ d ∈ tables_1, d.before a0 Z = true) : (Jvm.Cond.arrayClass Jvm.ClassFile.FieldType.double).before a0 Z = true := hw _ (List.mem_of_getElem? (i := 0) rfl)
theorem wd_1 {Z : State} {a0 : Array Value} (hw : ∀ d ∈ tables_1, d.before a0 Z = true) : (Jvm.Cond.methodLink "com/example/tallymark/tallymark/window/SortedRunsMergePinLaw" (7 : Nat) ({ cls := "com/example/tallymark/tallymark/window/SortedRuns", name := "merge", desc := "([DII[DII[DI)V" } : Jvm.MethodName)).before a0 Z = true := hw _ (List.mem_of_getElem? (i := 1) rfl)
theorem wd_2 {Z : State} {a0 : Array Value} (hw : ∀ d ∈ tables_1, d.before a0 Z = true) : (Jvm.Cond.static ({ cls := "com/example/tallymark/tallymark/window/SortedRuns", name := "merge", desc := "([DII[DII[DI)V" } : Jvm.MethodName)).before a0 Z = true := hw _ (List.mem_of_getElem? (i := 2) rfl)
theorem wd_3 {Z : State} {a0 : Array Value} (hw : ∀ d ∈ tables_1, d.before a0 Z = true) : (Jvm.Cond.initialized "com/example/tallymark/tallymark/window/SortedRuns").before a0 Z = true := hw _ (List.mem_of_getElem? (i := 3) rfl)
theorem wd_4 {Z : State} {a0 : Array Value} (hw : ∀ d ∈ tables_1, d.before a0 Z = true) : (Jvm.Cond.code ({ cls := "com/example/tallymark/tallymark/window/SortedRuns", name := "merge", desc := "([DII[DII[DI)V" } : Jvm.MethodName) prog_67_method_2_code (13 : Nat) (Option.none : Option Jvm.ClassFile.FieldType)).before a0 Z = true := hw _ (List.mem_of_getElem? (i := 4) rfl)
theorem wd_5 {Z : State} {a0 : Array Value} (hw : ∀ d ∈ tables_1, d.before a0 Z = true) : (Jvm.Cond.methodLink "com/example/tallymark/tallymark/window/SortedRunsMergePinLaw" (22 : Nat) ({ cls := "com/example/tallymark/tallymark/window/SortedRunsMergePinLaw", name := "untouched", desc := "([DIIID)Z" } : Jvm.MethodName)).before a0 Z = true := hw _ (List.mem_of_getElem? (i := 5) rfl)
theorem wd_6 {Z : State} {a0 : Array Value} (hw : ∀ d ∈ tables_1, d.before a0 Z = true) : (Jvm.Cond.static ({ cls := "com/example/tallymark/tallymark/window/SortedRunsMergePinLaw", name := "untouched", desc := "([DIIID)Z" } : Jvm.MethodName)).before a0 Z = true := hw _ (List.mem_of_getElem? (i := 6) rfl)
theorem wd_7 {Z : State} {a0 : Array Value} (hw : ∀ d ∈ tables_1, d.before a0 Z = true) : (Jvm.Cond.initialized "com/example/tallymark/tallymark/window/SortedRunsMergePinLaw").before a0 Z = true := hw _ (List.mem_of_getElem? (i := 7) rfl)
theorem wd_8 {Z : State} {a0 : Array Value} (hw : ∀ d ∈ tables_1, d.before a0 Z = true) : (Jvm.Cond.code ({ cls := "com/example/tallymark/tallymark/window/SortedRunsMergePinLaw", name := "untouched", desc := "([DIIID)Z" } : Jvm.MethodName) method_4_code (6 : Nat) (Option.some Jvm.ClassFile.FieldType.boolean)).before a0 Z = true := hw _ (List.mem_of_getElem? (i := 8) rfl)
theorem wd_9 {Z : State} {a0 : Array Value} (hw : ∀ d ∈ tables_1, d.before a0 Z = true) : (Jvm.Cond.methodLink "com/example/tallymark/tallymark/window/SortedRunsMergePinLaw" (13 : Nat) ({ cls := "com/example/tallymark/tallymark/window/SortedRunsMergePinLaw", name := "cntLess", desc := "(DIDD)I" } : Jvm.MethodName)).before a0 Z = true := hw _ (List.mem_of_getElem? (i := 9) rfl)
theorem wd_10 {Z : State} {a0 : Array Value} (hw : ∀ d ∈ tables_1, d.before a0 Z = true) : (Jvm.Cond.static ({ cls := "com/example/tallymark/tallymark/window/SortedRunsMergePinLaw", name := "cntLess", desc := "(DIDD)I" } : Jvm.MethodName)).before a0 Z = true := hw _ (List.mem_of_getElem? (i := 10) rfl)
theorem wd_11 {Z : State} {a0 : Array Value} (hw : ∀ d ∈ tables_1, d.before a0 Z = true) : (Jvm.Cond.code ({ cls := "com/example/tallymark/tallymark/window/SortedRunsMergePinLaw", name := "cntLess", desc := "(DIDD)I" } : Jvm.MethodName) method_2_code (8 : Nat) (Option.some Jvm.ClassFile.FieldType.int)).before a0 Z = true := hw _ (List.mem_of_getElem? (i := 11) rfl)
theorem wd_12 {Z : State} {a0 : Array Value} (hw : ∀ d ∈ tables_1, d.before a0 Z = true) : (Jvm.Cond.methodLink "com/example/tallymark/tallymark/window/SortedRunsMergePinLaw" (19 : Nat) ({ cls := "com/example/tallymark/tallymark/window/SortedRunsMergePinLaw", name := "cntLe", desc := "(DIDD)I" } : Jvm.MethodName)).before a0 Z = true := hw _ (List.mem_of_getElem? (i := 12) rfl)
theorem wd_13 {Z : State} {a0 : Array Value} (hw : ∀ d ∈ tables_1, d.before a0 Z = true) : (Jvm.Cond.static ({ cls := "com/example/tallymark/tallymark/window/SortedRunsMergePinLaw", name := "cntLe", desc := "(DIDD)I" } : Jvm.MethodName)).before a0 Z = true := hw _ (List.mem_of_getElem? (i := 13) rfl)
theorem wd_14 {Z : State} {a0 : Array Value} (hw : ∀ d ∈ tables_1, d.before a0 Z = true) : (Jvm.Cond.code ({ cls := "com/example/tallymark/tallymark/window/SortedRunsMergePinLaw", name := "cntLe", desc := "(DIDD)I" } : Jvm.MethodName) method_3_code (8 : Nat) (Option.some Jvm.ClassFile.FieldType.int)).before a0 Z = true := hw _ (List.mem_of_getElem? (i := 14) rfl)
theorem d1_25 : decode prog_67_method_2_code 25 = .ok (.iload 11, 2) := by decide +kernel
theorem d1_27 : decode prog_67_method_2_code 27 = .ok (.iload 10, 2) := by decide +kernel
theorem d1_29 : decode prog_67_method_2_code 29 = .ok (.if_icmp .ge 92, 3) := by decide +kernel
theorem d1_121 : decode prog_67_method_2_code 121 = .ok (.return_, 1) := by decide +kernel
theorem d1_32 : decode prog_67_method_2_code 32 = .ok (.iload 9, 2) := by decide +kernel
theorem d1_34 : decode prog_67_method_2_code 34 = .ok (.iload 5, 2) := by decide +kernel
theorem d1_36 : decode prog_67_method_2_code 36 = .ok (.if_icmp .eq 21, 3) := by decide +kernel
theorem d1_57 : decode prog_67_method_2_code 57 = .ok (.iconst 1, 1) := by decide +kernel
theorem d1_58 : decode prog_67_method_2_code 58 = .ok (.goto 4, 3) := by decide +kernel
theorem d1_62 : decode prog_67_method_2_code 62 = .ok (.istore 12, 2) := by decide +kernel
theorem d1_64 : decode prog_67_method_2_code 64 = .ok (.aload 6, 2) := by decide +kernel
theorem d1_66 : decode prog_67_method_2_code 66 = .ok (.iload 11, 2) := by decide +kernel
theorem d1_68 : decode prog_67_method_2_code 68 = .ok (.iload 12, 2) := by decide +kernel
theorem d1_70 : decode prog_67_method_2_code 70 = .ok (.ifCond .eq 10, 3) := by decide +kernel
theorem d1_73 : decode prog_67_method_2_code 73 = .ok (.aload_n 0, 1) := by decide +kernel
theorem d1_74 : decode prog_67_method_2_code 74 = .ok (.iload 8, 2) := by decide +kernel
theorem d1_76 : decode prog_67_method_2_code 76 = .ok (.daload, 1) := by decide +kernel
theorem d1_77 : decode prog_67_method_2_code 77 = .ok (.goto 7, 3) := by decide +kernel
theorem d1_84 : decode prog_67_method_2_code 84 = .ok (.dastore, 1) := by decide +kernel
theorem d1_85 : decode prog_67_method_2_code 85 = .ok (.iload 8, 2) := by decide +kernel
theorem d1_87 : decode prog_67_method_2_code 87 = .ok (.iload 12, 2) := by decide +kernel
theorem d1_89 : decode prog_67_method_2_code 89 = .ok (.ifCond .eq 7, 3) := by decide +kernel
theorem d1_92 : decode prog_67_method_2_code 92 = .ok (.iconst 1, 1) := by decide +kernel
theorem d1_93 : decode prog_67_method_2_code 93 = .ok (.goto 4, 3) := by decide +kernel
theorem d1_97 : decode prog_67_method_2_code 97 = .ok (.iadd, 1) := by decide +kernel
theorem d1_98 : decode prog_67_method_2_code 98 = .ok (.istore 8, 2) := by decide +kernel
theorem d1_100 : decode prog_67_method_2_code 100 = .ok (.iload 9, 2) := by decide +kernel
theorem d1_102 : decode prog_67_method_2_code 102 = .ok (.iload 12, 2) := by decide +kernel
theorem d1_104 : decode prog_67_method_2_code 104 = .ok (.ifCond .eq 7, 3) := by decide +kernel
theorem d1_107 : decode prog_67_method_2_code 107 = .ok (.iconst 0, 1) := by decide +kernel
theorem d1_108 : decode prog_67_method_2_code 108 = .ok (.goto 4, 3) := by decide +kernel
theorem d1_112 : decode prog_67_method_2_code 112 = .ok (.iadd, 1) := by decide +kernel
theorem d1_113 : decode prog_67_method_2_code 113 = .ok (.istore 9, 2) := by decide +kernel
theorem d1_115 : decode prog_67_method_2_code 115 = .ok (.iinc 11 1, 3) := by decide +kernel
theorem d1_118 : decode prog_67_method_2_code 118 = .ok (.goto (-93), 3) := by decide +kernel
theorem d1_39 : decode prog_67_method_2_code 39 = .ok (.iload 8, 2) := by decide +kernel
theorem d1_41 : decode prog_67_method_2_code 41 = .ok (.iload_n 2, 1) := by decide +kernel
theorem d1_42 : decode prog_67_method_2_code 42 = .ok (.if_icmp .ge 19, 3) := by decide +kernel
theorem d1_61 : decode prog_67_method_2_code 61 = .ok (.iconst 0, 1) := by decide +kernel
theorem d1_80 : decode prog_67_method_2_code 80 = .ok (.aload_n 3, 1) := by decide +kernel
theorem d1_81 : decode prog_67_method_2_code 81 = .ok (.iload 9, 2) := by decide +kernel
theorem d1_83 : decode prog_67_method_2_code 83 = .ok (.daload, 1) := by decide +kernel
theorem d1_96 : decode prog_67_method_2_code 96 = .ok (.iconst 0, 1) := by decide +kernel
theorem d1_111 : decode prog_67_method_2_code 111 = .ok (.iconst 1, 1) := by decide +kernel
theorem d1_45 : decode prog_67_method_2_code 45 = .ok (.aload_n 0, 1) := by decide +kernel
theorem d1_46 : decode prog_67_method_2_code 46 = .ok (.iload 8, 2) := by decide +kernel
theorem d1_48 : decode prog_67_method_2_code 48 = .ok (.daload, 1) := by decide +kernel
theorem d1_49 : decode prog_67_method_2_code 49 = .ok (.aload_n 3, 1) := by decide +kernel
theorem d1_50 : decode prog_67_method_2_code 50 = .ok (.iload 9, 2) := by decide +kernel
theorem d1_52 : decode prog_67_method_2_code 52 = .ok (.daload, 1) := by decide +kernel
theorem d1_53 : decode prog_67_method_2_code 53 = .ok (.dcmp .g, 1) := by decide +kernel
theorem d1_54 : decode prog_67_method_2_code 54 = .ok (.ifCond .gt 7, 3) := by decide +kernel
theorem ef_1 (m : MethodId) (x0 : Addr) (x1 : Int32) (x2 : Int32) (x3 : Addr) (x4 : Int32) (x5 : Int32) (x6 : Addr) (x7 : Int32) : entryFrame m #[.ref x0, .int x1, .int x2, .ref x3, .int x4, .int x5, .ref x6, .int x7] 13 = mkF m 0 #[.val (.ref x0), .val (.int x1), .val (.int x2), .val (.ref x3), .val (.int x4), .val (.int x5), .val (.ref x6), .val (.int x7), .unset, .unset, .unset, .unset, .unset] [] := by first | (simp [entryFrame, mkF, argsToLocals, Value.category, maxLocals]; done) | rfl
theorem d1_0 : decode prog_67_method_2_code 0 = .ok (.iload_n 1, 1) := by decide +kernel
theorem d1_1 : decode prog_67_method_2_code 1 = .ok (.istore 8, 2) := by decide +kernel
theorem d1_3 : decode prog_67_method_2_code 3 = .ok (.iload 4, 2) := by decide +kernel
theorem d1_5 : decode prog_67_method_2_code 5 = .ok (.istore 9, 2) := by decide +kernel
theorem d1_7 : decode prog_67_method_2_code 7 = .ok (.iload 7, 2) := by decide +kernel
theorem d1_9 : decode prog_67_method_2_code 9 = .ok (.iload_n 2, 1) := by decide +kernel
theorem d1_10 : decode prog_67_method_2_code 10 = .ok (.iload_n 1, 1) := by decide +kernel
theorem d1_11 : decode prog_67_method_2_code 11 = .ok (.isub, 1) := by decide +kernel
theorem d1_12 : decode prog_67_method_2_code 12 = .ok (.iadd, 1) := by decide +kernel
theorem d1_13 : decode prog_67_method_2_code 13 = .ok (.iload 5, 2) := by decide +kernel
theorem d1_15 : decode prog_67_method_2_code 15 = .ok (.iload 4, 2) := by decide +kernel
theorem d1_17 : decode prog_67_method_2_code 17 = .ok (.isub, 1) := by decide +kernel
theorem d1_18 : decode prog_67_method_2_code 18 = .ok (.iadd, 1) := by decide +kernel
theorem d1_19 : decode prog_67_method_2_code 19 = .ok (.istore 10, 2) := by decide +kernel
theorem d1_21 : decode prog_67_method_2_code 21 = .ok (.iload 7, 2) := by decide +kernel
theorem d1_23 : decode prog_67_method_2_code 23 = .ok (.istore 11, 2) := by decide +kernel
theorem pn_SortedRuns : plainName "com/example/tallymark/tallymark/window/SortedRuns" = true := by first | (simp [plainName, overriddenIn]; done) | decide +kernel
theorem ef_3 (m : MethodId) (x0 : UInt64) (x1 : Int32) (x2 : UInt64) (x3 : UInt64) : entryFrame m #[.double x0, .int x1, .double x2, .double x3] 8 = mkF m 0 #[.val (.double x0), .second, .val (.int x1), .val (.double x2), .second, .val (.double x3), .second, .unset] [] := by first | (simp [entryFrame, mkF, argsToLocals, Value.category, maxLocals]; done) | rfl
theorem d3_0 : decode method_2_code 0 = .ok (.iconst 0, 1) := by decide +kernel
theorem d3_1 : decode method_2_code 1 = .ok (.istore 7, 2) := by decide +kernel
theorem d3_3 : decode method_2_code 3 = .ok (.iload_n 2, 1) := by decide +kernel
theorem d3_4 : decode method_2_code 4 = .ok (.iconst 1, 1) := by decide +kernel
theorem d3_5 : decode method_2_code 5 = .ok (.if_icmp .lt 12, 3) := by decide +kernel
theorem d3_17 : decode method_2_code 17 = .ok (.iload_n 2, 1) := by decide +kernel
theorem d3_18 : decode method_2_code 18 = .ok (.iconst 2, 1) := by decide +kernel
theorem d3_19 : decode method_2_code 19 = .ok (.if_icmp .lt 13, 3) := by decide +kernel
theorem d3_32 : decode method_2_code 32 = .ok (.iload 7, 2) := by decide +kernel
theorem d3_34 : decode method_2_code 34 = .ok (.ireturn, 1) := by decide +kernel
theorem d3_8 : decode method_2_code 8 = .ok (.dload_n 3, 1) := by decide +kernel
theorem d3_9 : decode method_2_code 9 = .ok (.dload_n 0, 1) := by decide +kernel
theorem d3_10 : decode method_2_code 10 = .ok (.dcmp .g, 1) := by decide +kernel
theorem d3_11 : decode method_2_code 11 = .ok (.ifCond .ge 6, 3) := by decide +kernel
theorem d3_14 : decode method_2_code 14 = .ok (.iinc 7 1, 3) := by decide +kernel
theorem d3_22 : decode method_2_code 22 = .ok (.dload 5, 2) := by decide +kernel
theorem d3_24 : decode method_2_code 24 = .ok (.dload_n 0, 1) := by decide +kernel
theorem d3_25 : decode method_2_code 25 = .ok (.dcmp .g, 1) := by decide +kernel
theorem d3_26 : decode method_2_code 26 = .ok (.ifCond .ge 6, 3) := by decide +kernel
theorem d3_29 : decode method_2_code 29 = .ok (.iinc 7 1, 3) := by decide +kernel
theorem pn_SortedRunsMergePinLaw : plainName "com/example/tallymark/tallymark/window/SortedRunsMergePinLaw" = true := by first | (simp [plainName, overriddenIn]; done) | decide +kernel
theorem ef_4 (m : MethodId) (x0 : UInt64) (x1 : Int32) (x2 : UInt64) (x3 : UInt64) : entryFrame m #[.double x0, .int x1, .double x2, .double x3] 8 = mkF m 0 #[.val (.double x0), .second, .val (.int x1), .val (.double x2), .second, .val (.double x3), .second, .unset] [] := by first | (simp [entryFrame, mkF, argsToLocals, Value.category, maxLocals]; done) | rfl
theorem d4_0 : decode method_3_code 0 = .ok (.iconst 0, 1) := by decide +kernel
theorem d4_1 : decode method_3_code 1 = .ok (.istore 7, 2) := by decide +kernel
theorem d4_3 : decode method_3_code 3 = .ok (.iload_n 2, 1) := by decide +kernel
theorem d4_4 : decode method_3_code 4 = .ok (.iconst 1, 1) := by decide +kernel
theorem d4_5 : decode method_3_code 5 = .ok (.if_icmp .lt 12, 3) := by decide +kernel
theorem d4_17 : decode method_3_code 17 = .ok (.iload_n 2, 1) := by decide +kernel
theorem d4_18 : decode method_3_code 18 = .ok (.iconst 2, 1) := by decide +kernel
theorem d4_19 : decode method_3_code 19 = .ok (.if_icmp .lt 13, 3) := by decide +kernel
theorem d4_32 : decode method_3_code 32 = .ok (.iload 7, 2) := by decide +kernel
theorem d4_34 : decode method_3_code 34 = .ok (.ireturn, 1) := by decide +kernel
theorem d4_8 : decode method_3_code 8 = .ok (.dload_n 3, 1) := by decide +kernel
theorem d4_9 : decode method_3_code 9 = .ok (.dload_n 0, 1) := by decide +kernel
theorem d4_10 : decode method_3_code 10 = .ok (.dcmp .g, 1) := by decide +kernel
theorem d4_11 : decode method_3_code 11 = .ok (.ifCond .gt 6, 3) := by decide +kernel
theorem d4_14 : decode method_3_code 14 = .ok (.iinc 7 1, 3) := by decide +kernel
theorem d4_22 : decode method_3_code 22 = .ok (.dload 5, 2) := by decide +kernel
theorem d4_24 : decode method_3_code 24 = .ok (.dload_n 0, 1) := by decide +kernel
theorem d4_25 : decode method_3_code 25 = .ok (.dcmp .g, 1) := by decide +kernel
theorem d4_26 : decode method_3_code 26 = .ok (.ifCond .gt 6, 3) := by decide +kernel
theorem d4_29 : decode method_3_code 29 = .ok (.iinc 7 1, 3) := by decide +kernel
theorem ef_2 (m : MethodId) (x0 : Addr) (x1 : Int32) (x2 : Int32) (x3 : Int32) (x4 : UInt64) : entryFrame m #[.ref x0, .int x1, .int x2, .int x3, .double x4] 6 = mkF m 0 #[.val (.ref x0), .val (.int x1), .val (.int x2), .val (.int x3), .val (.double x4), .second] [] := by first | (simp [entryFrame, mkF, argsToLocals, Value.category, maxLocals]; done) | rfl
theorem d2_0 : decode method_4_code 0 = .ok (.iload_n 1, 1) := by decide +kernel
theorem d2_1 : decode method_4_code 1 = .ok (.iload_n 2, 1) := by decide +kernel
theorem d2_2 : decode method_4_code 2 = .ok (.if_icmp .lt 12, 3) := by decide +kernel
theorem d2_14 : decode method_4_code 14 = .ok (.aload_n 0, 1) := by decide +kernel
theorem d2_15 : decode method_4_code 15 = .ok (.iload_n 1, 1) := by decide +kernel
theorem d2_16 : decode method_4_code 16 = .ok (.daload, 1) := by decide +kernel
theorem d2_17 : decode method_4_code 17 = .ok (.dload 4, 2) := by decide +kernel
theorem d2_19 : decode method_4_code 19 = .ok (.dcmp .l, 1) := by decide +kernel
theorem d2_20 : decode method_4_code 20 = .ok (.ifCond .ne 7, 3) := by decide +kernel
theorem d2_23 : decode method_4_code 23 = .ok (.iconst 1, 1) := by decide +kernel
theorem d2_24 : decode method_4_code 24 = .ok (.goto 4, 3) := by decide +kernel
theorem d2_28 : decode method_4_code 28 = .ok (.ireturn, 1) := by decide +kernel
theorem d2_5 : decode method_4_code 5 = .ok (.iload_n 1, 1) := by decide +kernel
theorem d2_6 : decode method_4_code 6 = .ok (.iload_n 2, 1) := by decide +kernel
theorem d2_7 : decode method_4_code 7 = .ok (.iload_n 3, 1) := by decide +kernel
theorem d2_8 : decode method_4_code 8 = .ok (.iadd, 1) := by decide +kernel
theorem d2_9 : decode method_4_code 9 = .ok (.if_icmp .ge 5, 3) := by decide +kernel
theorem d2_12 : decode method_4_code 12 = .ok (.iconst 1, 1) := by decide +kernel
theorem d2_13 : decode method_4_code 13 = .ok (.ireturn, 1) := by decide +kernel
theorem ef_0 (m : MethodId) (x0 : Int32) (x1 : Int32) (x2 : Int32) (x3 : Int32) (x4 : Int32) (x5 : Int32) : entryFrame m #[.int x0, .int x1, .int x2, .int x3, .int x4, .int x5] maxLocals = mkF m 0 #[.val (.int x0), .val (.int x1), .val (.int x2), .val (.int x3), .val (.int x4), .val (.int x5), .unset, .unset, .unset, .unset, .unset, .unset, .unset, .unset, .unset, .unset, .unset, .unset, .unset, .unset, .unset, .unset, .unset, .unset, .unset, .unset, .unset, .unset, .unset, .unset, .unset, .unset, .unset, .unset, .unset, .unset] [] := by first | (simp [entryFrame, mkF, argsToLocals, Value.category, maxLocals]; done) | rfl
theorem pd_0 : parseMethodDescriptor "([DII[DII[DI)V" = some ⟨[(.array .double), .int, .int, (.array .double), .int, .int, (.array .double), .int], none⟩ := by decide +kernel
theorem pd_1 : parseMethodDescriptor "([DIIID)Z" = some ⟨[(.array .double), .int, .int, .int, .double], some .boolean⟩ := by decide +kernel
theorem pd_2 : parseMethodDescriptor "(DIDD)I" = some ⟨[.double, .int, .double, .double], some .int⟩ := by decide +kernel

def own_put : List Value → Nat → List UInt64 → List Value
  | os, _, [] => os
  | os, k, x :: L => own_put (os.set k (.double x)) (k + 1) L
def own_mg : Nat → List UInt64 → List UInt64 → List UInt64
  | 0, _, _ => []
  | _ + 1, [], ys => ys
  | _ + 1, x :: xs, [] => x :: xs
  | n + 1, x :: xs, y :: ys => if 0 < cmpValue (FP.dcmp x y) .g then y :: own_mg n (x :: xs) ys else x :: own_mg n xs (y :: ys)
theorem own_mgE (n : Nat) (ys : List UInt64) : own_mg (n + 1) [] ys = ys := by cases ys <;> rfl
theorem own_mgX {n : Nat} {xs : List UInt64} (h : xs.length = n) : own_mg n xs [] = xs := by
  cases n with
  | zero => cases xs with | nil => rfl | cons => simp at h
  | succ n => cases xs with | nil => simp at h | cons => rfl
theorem own_mgY {n : Nat} {ys : List UInt64} (h : ys.length = n) : own_mg n [] ys = ys := by
  cases n with
  | zero => cases ys with | nil => rfl | cons => simp at h
  | succ n => cases ys <;> rfl
theorem own_mgA {n : Nat} {x y : UInt64} {xs ys : List UInt64} (h : ¬ (0 : Int32) < cmpValue (FP.dcmp x y) .g) : own_mg (n + 1) (x :: xs) (y :: ys) = x :: own_mg n xs (y :: ys) := if_neg h
theorem own_mgB {n : Nat} {x y : UInt64} {xs ys : List UInt64} (h : (0 : Int32) < cmpValue (FP.dcmp x y) .g) : own_mg (n + 1) (x :: xs) (y :: ys) = y :: own_mg n (x :: xs) ys := if_pos h
theorem own_put_len (L : List UInt64) : ∀ (os : List Value) (k : Nat), (own_put os k L).length = os.length := by
  induction L with
  | nil => intro os k; rfl
  | cons x L ih => intro os k; show (own_put (os.set k _) (k + 1) L).length = _; rw [ih, List.length_set]
theorem own_put_out (L : List UInt64) : ∀ (os : List Value) (k i : Nat), (i < k ∨ k + L.length ≤ i) → (own_put os k L)[i]? = os[i]? := by
  induction L with
  | nil => intro os k i _; rfl
  | cons x L ih =>
    intro os k i h
    show (own_put (os.set k _) (k + 1) L)[i]? = _
    rw [List.length_cons] at h
    rw [ih _ _ _ (by omega), List.getElem?_set_ne (by omega)]
theorem own_put_in (L : List UInt64) : ∀ (os : List Value) (k i : Nat) (x : UInt64), k + L.length ≤ os.length → L[i]? = some x → (own_put os k L)[k + i]? = some (.double x) := by
  induction L with
  | nil => intro os k i x _ h; simp at h
  | cons y L ih =>
    intro os k i x hl h
    rw [List.length_cons] at hl
    show (own_put (os.set k _) (k + 1) L)[k + i]? = _
    cases i with
    | zero =>
      have : y = x := by simpa using h
      subst this
      rw [own_put_out L _ _ _ (Or.inl (by omega))]
      simp [show k < os.length by omega]
    | succ i =>
      rw [show k + (i + 1) = k + 1 + i by omega]
      exact ih _ _ _ _ (by rw [List.length_set]; omega) (by simpa using h)
theorem own_i1 {i : Int32} {n : Nat} {b : Int32} (h : i.toInt = (n : Int)) (hb : (n : Int) + 1 ≤ b.toInt) : (i + (1 : Int32)).toInt = ((n + 1 : Nat) : Int) := by
  have := b.toInt_lt
  have e : (1 : Int32).toInt = 1 := by decide
  rw [Kit.i32_add (by rw [e]; omega) (by rw [e]; omega), e]; omega
theorem own_i0 {i : Int32} {n : Nat} (h : i.toInt = (n : Int)) : (i + (0 : Int32)).toInt = (n : Int) := by rw [Int32.add_zero]; exact h
theorem own_tl {vs : List Value} {i0 : Nat} {x : UInt64} {xs : List UInt64} (h : ∀ t z, (x :: xs)[t]? = some z → vs[i0 + t]? = some (.double z)) : ∀ t z, xs[t]? = some z → vs[i0 + 1 + t]? = some (.double z) := fun t z q => by
  have := h (t + 1) z (by simpa using q)
  rwa [show i0 + (t + 1) = i0 + 1 + t by omega] at this
theorem own_mg_len : ∀ (n : Nat) (xs ys : List UInt64), xs.length + ys.length = n → (own_mg n xs ys).length = n := by
  intro n
  induction n with
  | zero => intro xs ys h; rfl
  | succ n ih =>
    intro xs ys h
    rcases xs with _ | ⟨x, xs⟩
    · rw [own_mgE]; simpa using h
    · rcases ys with _ | ⟨y, ys⟩
      · rw [own_mgX (by simpa using h)]; simpa using h
      · by_cases c : (0 : Int32) < cmpValue (FP.dcmp x y) .g
        · rw [own_mgB c, List.length_cons, ih _ _ (by simp only [List.length_cons] at h ⊢; omega)]
        · rw [own_mgA c, List.length_cons, ih _ _ (by simp only [List.length_cons] at h ⊢; omega)]
def own_cL (x : UInt64) (ys : List UInt64) : Nat := (ys.filter fun y => decide (cmpValue (FP.dcmp y x) .g < (0 : Int32))).length
def own_cE (x : UInt64) (ys : List UInt64) : Nat := (ys.filter fun y => !decide ((0 : Int32) < cmpValue (FP.dcmp y x) .g)).length
theorem own_cL_le (x : UInt64) (ys : List UInt64) : own_cL x ys ≤ ys.length := List.length_filter_le ..
theorem own_cE_le (x : UInt64) (ys : List UInt64) : own_cE x ys ≤ ys.length := List.length_filter_le ..
section
variable {x0 x1 y0 y1 : UInt64} {A0 A1 B0 B1 : Int} {xs ys : List UInt64}
theorem own_posA0 (d0 : Dy A0 0 x0) (d1 : Dy A1 0 x1) (f0 : Dy B0 0 y0) (f1 : Dy B1 0 y1) (hA : A0 ≤ A1) (hB : B0 ≤ B1) (hx : xs = [x0] ∨ xs = [x0, x1]) (hy : ys = [] ∨ ys = [y0] ∨ ys = [y0, y1]) : (own_mg (xs.length + ys.length) xs ys)[own_cL x0 ys]? = some x0 := by
  have e1 := dy_gt0 d0 f0 .g
  have e2 := dy_gt0 d0 f1 .g
  have e3 := dy_lt0 f0 d0 .g
  have e4 := dy_lt0 f1 d0 .g
  rcases hx with rfl | rfl <;> rcases hy with rfl | rfl | rfl <;> by_cases h1 : B0 < A0 <;> by_cases h2 : B1 < A0 <;> first | (exfalso; omega) | simp [own_mg, own_cL, e1, e2, e3, e4, h1, h2]
theorem own_posA1 (d0 : Dy A0 0 x0) (d1 : Dy A1 0 x1) (f0 : Dy B0 0 y0) (f1 : Dy B1 0 y1) (hA : A0 ≤ A1) (hB : B0 ≤ B1) (hy : ys = [] ∨ ys = [y0] ∨ ys = [y0, y1]) : (own_mg ([x0, x1].length + ys.length) [x0, x1] ys)[1 + own_cL x1 ys]? = some x1 := by
  have e1 := dy_gt0 d0 f0 .g
  have e2 := dy_gt0 d0 f1 .g
  have e3 := dy_gt0 d1 f0 .g
  have e4 := dy_gt0 d1 f1 .g
  have e5 := dy_lt0 f0 d1 .g
  have e6 := dy_lt0 f1 d1 .g
  rcases hy with rfl | rfl | rfl <;> by_cases h1 : B0 < A0 <;> by_cases h2 : B1 < A0 <;> by_cases h3 : B0 < A1 <;> by_cases h4 : B1 < A1 <;> first | (exfalso; omega) | simp [own_mg, own_cL, e1, e2, e3, e4, e5, e6, h1, h2, h3, h4]
theorem own_posB0 (d0 : Dy A0 0 x0) (d1 : Dy A1 0 x1) (f0 : Dy B0 0 y0) (f1 : Dy B1 0 y1) (hA : A0 ≤ A1) (hB : B0 ≤ B1) (hx : xs = [] ∨ xs = [x0] ∨ xs = [x0, x1]) (hy : ys = [y0] ∨ ys = [y0, y1]) : (own_mg (xs.length + ys.length) xs ys)[own_cE y0 xs]? = some y0 := by
  have e1 := dy_gt0 d0 f0 .g
  have e2 := dy_gt0 d1 f0 .g
  rcases hx with rfl | rfl | rfl <;> rcases hy with rfl | rfl <;> by_cases h1 : B0 < A0 <;> by_cases h2 : B0 < A1 <;> first | (exfalso; omega) | simp [own_mg, own_cE, e1, e2, h1, h2]
theorem own_posB1 (d0 : Dy A0 0 x0) (d1 : Dy A1 0 x1) (f0 : Dy B0 0 y0) (f1 : Dy B1 0 y1) (hA : A0 ≤ A1) (hB : B0 ≤ B1) (hx : xs = [] ∨ xs = [x0] ∨ xs = [x0, x1]) : (own_mg (xs.length + [y0, y1].length) xs [y0, y1])[1 + own_cE y1 xs]? = some y1 := by
  have e1 := dy_gt0 d0 f0 .g
  have e2 := dy_gt0 d1 f0 .g
  have e3 := dy_gt0 d0 f1 .g
  have e4 := dy_gt0 d1 f1 .g
  rcases hx with rfl | rfl | rfl <;> by_cases h1 : B0 < A0 <;> by_cases h2 : B0 < A1 <;> by_cases h3 : B1 < A0 <;> by_cases h4 : B1 < A1 <;> first | (exfalso; omega) | simp [own_mg, own_cE, e1, e2, e3, e4, h1, h2, h3, h4]
end
theorem own_mod3 {z : Int32} (h : 0 ≤ z.toInt) : z - z / 3 * 3 = 0 ∨ z - z / 3 * 3 = 1 ∨ z - z / 3 * 3 = 2 := by
  have h2 := i32_remN (x := z) (y := 3) h
  rw [show (3 : Int32).toInt = 3 by decide] at h2
  generalize (z - z / 3 * 3 : Int32) = r at h2 ⊢
  have q : r.toInt = 0 ∨ r.toInt = 1 ∨ r.toInt = 2 := by omega
  rcases q with q | q | q
  · exact Or.inl (i32_lit q (by decide))
  · exact Or.inr (Or.inl (i32_lit q (by decide)))
  · exact Or.inr (Or.inr (i32_lit q (by decide)))
theorem own_255 (z : Int32) : 0 ≤ (z &&& (255 : Int32)).toInt := by
  have h := Kit.i32_mask z 255 (k := 8) (by decide) (by decide)
  omega
theorem own_bit {z : Int32} (h : z = 0 ∨ z = 1) : ∃ n : Nat, z.toInt = (n : Int) ∧ n ≤ 1 := by
  rcases h with rfl | rfl
  · exact ⟨0, by decide, by decide⟩
  · exact ⟨1, by decide, by decide⟩
theorem own_ushr (z : Int32) : 0 ≤ (XT.ushr z (1 : Int32)).toInt := by
  have hb := z.toUInt32.toNat_lt
  have e : XT.ushr z (1 : Int32) = (z.toUInt32 >>> 1).toInt32 := rfl
  have e3 : ((z.toUInt32 >>> 1).toInt32).toBitVec.toNat = z.toUInt32.toNat / 2 := by
    show (z.toUInt32 >>> 1).toNat = _
    rw [UInt32.toNat_shiftRight]; simp [Nat.shiftRight_eq_div_pow]
  have e2 : ((z.toUInt32 >>> 1).toInt32).toInt = ((z.toUInt32.toNat / 2 : Nat) : Int) := by
    show ((z.toUInt32 >>> 1).toInt32).toBitVec.toInt = _
    rw [BitVec.toInt_eq_toNat_cond, e3, if_pos (by omega)]
  rw [e, e2]; omega
theorem own_vals (p1 p2 p3 p4 : Int32) : ∃ A0 A1 B0 B1 : Int, Dy A0 0 (FP.l2d p1.toInt64) ∧ Dy A1 0 (FP.l2d (p1.toInt64 + (XT.ushr p2 (1 : Int32)).toInt64)) ∧ Dy B0 0 (FP.l2d (p1.toInt64 + p3.toInt64)) ∧ Dy B1 0 (FP.l2d ((p1.toInt64 + p3.toInt64) + (XT.ushr p4 (1 : Int32)).toInt64)) ∧ A0 ≤ A1 ∧ B0 ≤ B1 := by
  have l1 := p1.toInt_lt; have g1 := p1.le_toInt
  have l3 := p3.toInt_lt; have g3 := p3.le_toInt
  have l2 := (XT.ushr p2 (1 : Int32)).toInt_lt; have g2 := own_ushr p2
  have l4 := (XT.ushr p4 (1 : Int32)).toInt_lt; have g4 := own_ushr p4
  have a1 : (p1.toInt64 + (XT.ushr p2 (1 : Int32)).toInt64).toInt = p1.toInt + (XT.ushr p2 (1 : Int32)).toInt := by
    rw [Kit.i64_add (by rw [Int32.toInt_toInt64, Int32.toInt_toInt64]; omega) (by rw [Int32.toInt_toInt64, Int32.toInt_toInt64]; omega), Int32.toInt_toInt64, Int32.toInt_toInt64]
  have b0 : (p1.toInt64 + p3.toInt64).toInt = p1.toInt + p3.toInt := by
    rw [Kit.i64_add (by rw [Int32.toInt_toInt64, Int32.toInt_toInt64]; omega) (by rw [Int32.toInt_toInt64, Int32.toInt_toInt64]; omega), Int32.toInt_toInt64, Int32.toInt_toInt64]
  have b1 : ((p1.toInt64 + p3.toInt64) + (XT.ushr p4 (1 : Int32)).toInt64).toInt = p1.toInt + p3.toInt + (XT.ushr p4 (1 : Int32)).toInt := by
    rw [Kit.i64_add (by rw [b0, Int32.toInt_toInt64]; omega) (by rw [b0, Int32.toInt_toInt64]; omega), b0, Int32.toInt_toInt64]
  refine ⟨_, _, _, _, dy_l2d (by rw [Int32.toInt_toInt64]; omega), dy_l2d (by rw [a1]; omega), dy_l2d (by rw [b0]; omega), dy_l2d (by rw [b1]; omega), ?_, ?_⟩
  · rw [a1, Int32.toInt_toInt64]; omega
  · rw [b1, b0]; omega
theorem own_h0 {vs : List Value} {fa : Nat} : ∀ t z, ([] : List UInt64)[t]? = some z → vs[fa + t]? = some (.double z) := fun t z h => by simp at h
theorem own_h1 {vs : List Value} {fa : Nat} {x0 : UInt64} (h : fa < vs.length) : ∀ t z, [x0][t]? = some z → (vs.set fa (.double x0))[fa + t]? = some (.double z) := fun t z q => by
  cases t with
  | zero => simp at q; subst q; simp [h]
  | succ t => simp at q
theorem own_h2 {vs : List Value} {fa : Nat} {x0 x1 : UInt64} (h : fa + 1 < vs.length) : ∀ t z, [x0, x1][t]? = some z → ((vs.set fa (.double x0)).set (fa + 1) (.double x1))[fa + t]? = some (.double z) := fun t z q => by
  cases t with
  | zero => simp at q; subst q; rw [List.getElem?_set_ne (by omega)]; simp [show fa < vs.length by omega]
  | succ t => cases t with
    | zero => simp at q; subst q; simp [h]
    | succ t => simp at q
theorem own_add {a b : Int32} {m n : Nat} (ha : a.toInt = (m : Int)) (hb : b.toInt = (n : Int)) (h : m + n < 1000) : (a + b).toInt = ((m + n : Nat) : Int) := by
  rw [Kit.i32_add (by omega) (by omega)]; omega
theorem own_en {o a b x y : Int32} {fo m n fa fb : Nat} (ho : o.toInt = (fo : Int)) (ha : a.toInt = (fa : Int)) (hb : b.toInt = (fb : Int)) (hx : x.toInt = (m : Int)) (hy : y.toInt = (n : Int)) (h : fo + fa + fb + m + n < 1000) : ((o + ((a + x) - a)) + ((b + y) - b)).toInt = (fo : Int) + ((m + n : Nat) : Int) := by
  have e1 : (a + x).toInt = fa + m := by rw [Kit.i32_add (by omega) (by omega)]; omega
  have e2 : ((a + x) - a).toInt = m := by rw [Kit.i32_sub (by omega) (by omega)]; omega
  have e3 : (b + y).toInt = fb + n := by rw [Kit.i32_add (by omega) (by omega)]; omega
  have e4 : ((b + y) - b).toInt = n := by rw [Kit.i32_sub (by omega) (by omega)]; omega
  have e5 : (o + ((a + x) - a)).toInt = fo + m := by rw [Kit.i32_add (by omega) (by omega)]; omega
  rw [Kit.i32_add (by omega) (by omega)]; omega
theorem own_len {xs : List UInt64} {x0 x1 : UInt64} (h : xs = [] ∨ xs = [x0] ∨ xs = [x0, x1]) : xs.length ≤ 2 := by rcases h with rfl | rfl | rfl <;> simp
theorem own_ge1 {xs : List UInt64} {x0 x1 : UInt64} {la : Int32} (h : xs = [] ∨ xs = [x0] ∨ xs = [x0, x1]) (hl : la.toInt = (xs.length : Int)) (hc : ¬ la < 1) : xs = [x0] ∨ xs = [x0, x1] := by
  rcases h with rfl | h | h
  · exact absurd (show la < 1 by rw [Int32.lt_iff_toInt_lt, hl]; decide) hc
  · exact Or.inl h
  · exact Or.inr h
theorem own_ge2 {xs : List UInt64} {x0 x1 : UInt64} {la : Int32} (h : xs = [] ∨ xs = [x0] ∨ xs = [x0, x1]) (hl : la.toInt = (xs.length : Int)) (hc : ¬ la < 2) : xs = [x0, x1] := by
  rcases h with rfl | rfl | h
  · exact absurd (show la < 2 by rw [Int32.lt_iff_toInt_lt, hl]; decide) hc
  · exact absurd (show la < 2 by rw [Int32.lt_iff_toInt_lt, hl]; show (1 : Int) < (2 : Int32).toInt; decide) hc
  · exact h
theorem own_rep {v : Value} {i n : Nat} (h : i < n) : (List.replicate n v)[i]? = some v := by simp [h]

set_option maxRecDepth 65536 in
set_option maxHeartbeats 40000000 in
theorem m_loop (l : Launch) (Z : State) (a0 : Array Value) (hw : ∀ d ∈ tables_1, d.before a0 Z = true) (n0 : Nat) (aa ba oa : Addr) (avs bvs : List Value) (af at0 bf bt ofr en : Int32) (F : List HRow) (as0 : Array Value)
    (p : Program) (e : Env) (s : State) (m : MethodId) (below : List Frame) (meth : Method) (c : Code) : ∀ (N : Nat) (xs ys : List UInt64) (i j k : Int32) (i0 j0 k0 : Nat) (os : List Value) (sl : Slot) (T : State),
    xs.length + ys.length = N → i.toInt = (i0 : Int) → j.toInt = (j0 : Int) → k.toInt = (k0 : Int) → at0.toInt = (i0 : Int) + xs.length → bt.toInt = (j0 : Int) + ys.length → en.toInt = (k0 : Int) + N →
    (∀ t z, xs[t]? = some z → avs[i0 + t]? = some (.double z)) → (∀ t z, ys[t]? = some z → bvs[j0 + t]? = some (.double z)) → k0 + N ≤ os.length →
    (∀ (i' j' k' v : Int32), storeLocals #[.val (.ref aa), .val (.int af), .val (.int at0), .val (.ref ba), .val (.int bf), .val (.int bt), .val (.ref oa), .val (.int ofr), .val (.int i'), .val (.int j'), .val (.int en), .val (.int k'), sl] 12 (.int v) = some #[.val (.ref aa), .val (.int af), .val (.int at0), .val (.ref ba), .val (.int bf), .val (.int bt), .val (.ref oa), .val (.int ofr), .val (.int i'), .val (.int j'), .val (.int en), .val (.int k'), .val (.int v)]) →
    Wk Z ⟨"com/example/tallymark/tallymark/window/SortedRuns", "merge", "([DII[DII[DI)V"⟩ prog_67_method_2_code 13 none n0 p l e ({ frames := 0, cells := 0, slots := 0, locals := 0 } : Room) s m as0 below meth c T 0 0 → Hp Z n0 T.heap ((aa, ArC Z .double avs) :: (ba, ArC Z .double bvs) :: (oa, ArC Z .double os) :: F) →
    Goes p e below (En s n0 (Room.cells ({ frames := 0, cells := 0, slots := 0, locals := 0 } : Room)) (Room.slots ({ frames := 0, cells := 0, slots := 0, locals := 0 } : Room)) (fun v h => v = none ∧ Hp Z n0 h ((aa, ArC Z .double avs) :: (ba, ArC Z .double bvs) :: (oa, ArC Z .double (own_put os k0 (own_mg N xs ys))) :: F))) (T.setTop (mkF m 25 #[.val (.ref aa), .val (.int af), .val (.int at0), .val (.ref ba), .val (.int bf), .val (.int bt), .val (.ref oa), .val (.int ofr), .val (.int i), .val (.int j), .val (.int en), .val (.int k), sl] [])) := by
  intro N
  induction N with
  | zero =>
    intro xs ys i j k i0 j0 k0 os sl T hN hi hj hk hat hbt hen hxs hys hos hst W H
    refine g_iload W d1_25 (pc' := 27) rfl rfl ?_
    refine g_iload W d1_27 (pc' := 29) rfl rfl ?_
    refine g_icmp W d1_29 (pcy := 121) (by decide) (pc' := 32) rfl (fun (_ : ¬ k < en) => ?_) (fun (h : ¬ ¬ k < en) => absurd (Classical.not_not.mp h) (by rw [Int32.lt_iff_toInt_lt]; omega))
    exact g_return W d1_121 ⟨rfl, H⟩ (by decide) (by decide)
  | succ N ih =>
    intro xs ys i j k i0 j0 k0 os sl T hN hi hj hk hat hbt hen hxs hys hos hst W H
    refine g_iload W d1_25 (pc' := 27) rfl rfl ?_
    refine g_iload W d1_27 (pc' := 29) rfl rfl ?_
    refine g_icmp W d1_29 (pcy := 121) (by decide) (pc' := 32) rfl (fun (h : ¬ k < en) => absurd (show k < en by rw [Int32.lt_iff_toInt_lt]; omega) h) (fun (_ : ¬ ¬ k < en) => ?_)
    rcases ys with _ | ⟨y, ys⟩
    · rcases xs with _ | ⟨x, xs⟩
      · simp at hN
      · refine g_iload W d1_32 (pc' := 34) rfl rfl ?_
        refine g_iload W d1_34 (pc' := 36) rfl rfl ?_
        refine g_icmp W d1_36 (pcy := 57) (by decide) (pc' := 39) rfl (fun (_ : j = bt) => ?_) (fun (h : ¬ j = bt) => absurd (Int32.toInt_inj.mp (by simp at hbt; omega)) h)
        refine g_iconst W d1_57 (pc' := 58) rfl (v := (1 : Int32)) (by decide) ?_
        refine g_goto W d1_58 (pc' := 62) (by decide) ?_
        refine g_istore W d1_62 (pc' := 64) rfl (ls' := #[.val (.ref aa), .val (.int af), .val (.int at0), .val (.ref ba), .val (.int bf), .val (.int bt), .val (.ref oa), .val (.int ofr), .val (.int i), .val (.int j), .val (.int en), .val (.int k), .val (.int (1 : Int32))]) (hst _ _ _ _) ?_
        refine g_aload W d1_64 (pc' := 66) rfl rfl rfl ?_
        refine g_iload W d1_66 (pc' := 68) rfl rfl ?_
        refine g_iload W d1_68 (pc' := 70) rfl rfl ?_
        refine g_if W d1_70 (pcy := 80) (by decide) (pc' := 73) rfl (fun (h : (1 : Int32) = (0 : Int32)) => absurd h (by decide)) (fun _ => ?_)
        refine g_aloadN W d1_73 (pc' := 74) rfl rfl rfl ?_
        refine g_iload W d1_74 (pc' := 76) rfl rfl ?_
        refine g_daload W H (i := 0) rfl (jx := i0) hi (v := .double x) (hxs 0 x rfl) d1_76 (pc' := 77) rfl ?_
        refine g_goto W d1_77 (pc' := 84) (by decide) ?_
        refine g_dastore W H (i := 2) rfl (jx := k0) hk (by omega) d1_84 (pc' := 85) rfl (L' := ((aa, ArC Z .double avs) :: (ba, ArC Z .double bvs) :: (oa, ArC Z .double (os.set k0 (.double x))) :: F)) rfl ?_
        intro T1 W1 H1
        refine g_iload W1 d1_85 (pc' := 87) rfl rfl ?_
        refine g_iload W1 d1_87 (pc' := 89) rfl rfl ?_
        refine g_if W1 d1_89 (pcy := 96) (by decide) (pc' := 92) rfl (fun (h : (1 : Int32) = (0 : Int32)) => absurd h (by decide)) (fun _ => ?_)
        refine g_iconst W1 d1_92 (pc' := 93) rfl (v := (1 : Int32)) (by decide) ?_
        refine g_goto W1 d1_93 (pc' := 97) (by decide) ?_
        refine g_iadd W1 d1_97 (pc' := 98) rfl rfl ?_
        refine g_istore W1 d1_98 (pc' := 100) rfl (ls' := #[.val (.ref aa), .val (.int af), .val (.int at0), .val (.ref ba), .val (.int bf), .val (.int bt), .val (.ref oa), .val (.int ofr), .val (.int (i + (1 : Int32))), .val (.int j), .val (.int en), .val (.int k), .val (.int (1 : Int32))]) rfl ?_
        refine g_iload W1 d1_100 (pc' := 102) rfl rfl ?_
        refine g_iload W1 d1_102 (pc' := 104) rfl rfl ?_
        refine g_if W1 d1_104 (pcy := 111) (by decide) (pc' := 107) rfl (fun (h : (1 : Int32) = (0 : Int32)) => absurd h (by decide)) (fun _ => ?_)
        refine g_iconst W1 d1_107 (pc' := 108) rfl (v := (0 : Int32)) (by decide) ?_
        refine g_goto W1 d1_108 (pc' := 112) (by decide) ?_
        refine g_iadd W1 d1_112 (pc' := 113) rfl rfl ?_
        refine g_istore W1 d1_113 (pc' := 115) rfl (ls' := #[.val (.ref aa), .val (.int af), .val (.int at0), .val (.ref ba), .val (.int bf), .val (.int bt), .val (.ref oa), .val (.int ofr), .val (.int (i + (1 : Int32))), .val (.int (j + (0 : Int32))), .val (.int en), .val (.int k), .val (.int (1 : Int32))]) rfl ?_
        refine g_iinc W1 d1_115 (pc' := 118) rfl rfl (v := (k + (1 : Int32))) (by rfl) (ls' := #[.val (.ref aa), .val (.int af), .val (.int at0), .val (.ref ba), .val (.int bf), .val (.int bt), .val (.ref oa), .val (.int ofr), .val (.int (i + (1 : Int32))), .val (.int (j + (0 : Int32))), .val (.int en), .val (.int (k + (1 : Int32))), .val (.int (1 : Int32))]) rfl ?_
        refine g_goto W1 d1_118 (pc' := 25) (by decide) ?_
        rw [show own_mg (N + 1) (x :: xs) [] = x :: own_mg N xs [] from (own_mgX (by simpa using hN)).trans (congrArg (List.cons x) (own_mgX (n := N) (xs := xs) (by simpa using hN)).symm)]
        exact ih xs [] (i + (1 : Int32)) (j + (0 : Int32)) (k + (1 : Int32)) (i0 + 1) j0 (k0 + 1) (os.set k0 (.double x)) (.val (.int (1 : Int32))) _ (by simp only [List.length_cons, List.length_nil] at hN ⊢; omega) (own_i1 (b := at0) hi (by rw [hat, List.length_cons]; omega)) (own_i0 hj) (own_i1 (b := en) hk (by rw [hen]; omega)) (by simp only [List.length_cons, List.length_nil] at hat ⊢; omega) (by simp only [List.length_cons, List.length_nil] at hbt ⊢; omega) (by omega) (own_tl hxs) hys (by rw [List.length_set]; omega) (fun _ _ _ _ => rfl) W1 H1
    · rcases xs with _ | ⟨x, xs⟩
      · refine g_iload W d1_32 (pc' := 34) rfl rfl ?_
        refine g_iload W d1_34 (pc' := 36) rfl rfl ?_
        refine g_icmp W d1_36 (pcy := 57) (by decide) (pc' := 39) rfl (fun (h : j = bt) => absurd hbt (by rw [← h, List.length_cons]; omega)) (fun (_ : ¬ j = bt) => ?_)
        refine g_iload W d1_39 (pc' := 41) rfl rfl ?_
        refine g_iloadN W d1_41 (pc' := 42) rfl rfl ?_
        refine g_icmp W d1_42 (pcy := 61) (by decide) (pc' := 45) rfl (fun (_ : ¬ i < at0) => ?_) (fun (h : ¬ ¬ i < at0) => absurd (Classical.not_not.mp h) (by rw [Int32.lt_iff_toInt_lt]; simp at hat; omega))
        refine g_iconst W d1_61 (pc' := 62) rfl (v := (0 : Int32)) (by decide) ?_
        refine g_istore W d1_62 (pc' := 64) rfl (ls' := #[.val (.ref aa), .val (.int af), .val (.int at0), .val (.ref ba), .val (.int bf), .val (.int bt), .val (.ref oa), .val (.int ofr), .val (.int i), .val (.int j), .val (.int en), .val (.int k), .val (.int (0 : Int32))]) (hst _ _ _ _) ?_
        refine g_aload W d1_64 (pc' := 66) rfl rfl rfl ?_
        refine g_iload W d1_66 (pc' := 68) rfl rfl ?_
        refine g_iload W d1_68 (pc' := 70) rfl rfl ?_
        refine g_if W d1_70 (pcy := 80) (by decide) (pc' := 73) rfl (fun _ => ?_) (fun (h : ¬ (0 : Int32) = (0 : Int32)) => absurd h (by decide))
        refine g_aloadN W d1_80 (pc' := 81) rfl rfl rfl ?_
        refine g_iload W d1_81 (pc' := 83) rfl rfl ?_
        refine g_daload W H (i := 1) rfl (jx := j0) hj (v := .double y) (hys 0 y rfl) d1_83 (pc' := 84) rfl ?_
        refine g_dastore W H (i := 2) rfl (jx := k0) hk (by omega) d1_84 (pc' := 85) rfl (L' := ((aa, ArC Z .double avs) :: (ba, ArC Z .double bvs) :: (oa, ArC Z .double (os.set k0 (.double y))) :: F)) rfl ?_
        intro T2 W2 H2
        refine g_iload W2 d1_85 (pc' := 87) rfl rfl ?_
        refine g_iload W2 d1_87 (pc' := 89) rfl rfl ?_
        refine g_if W2 d1_89 (pcy := 96) (by decide) (pc' := 92) rfl (fun _ => ?_) (fun (h : ¬ (0 : Int32) = (0 : Int32)) => absurd h (by decide))
        refine g_iconst W2 d1_96 (pc' := 97) rfl (v := (0 : Int32)) (by decide) ?_
        refine g_iadd W2 d1_97 (pc' := 98) rfl rfl ?_
        refine g_istore W2 d1_98 (pc' := 100) rfl (ls' := #[.val (.ref aa), .val (.int af), .val (.int at0), .val (.ref ba), .val (.int bf), .val (.int bt), .val (.ref oa), .val (.int ofr), .val (.int (i + (0 : Int32))), .val (.int j), .val (.int en), .val (.int k), .val (.int (0 : Int32))]) rfl ?_
        refine g_iload W2 d1_100 (pc' := 102) rfl rfl ?_
        refine g_iload W2 d1_102 (pc' := 104) rfl rfl ?_
        refine g_if W2 d1_104 (pcy := 111) (by decide) (pc' := 107) rfl (fun _ => ?_) (fun (h : ¬ (0 : Int32) = (0 : Int32)) => absurd h (by decide))
        refine g_iconst W2 d1_111 (pc' := 112) rfl (v := (1 : Int32)) (by decide) ?_
        refine g_iadd W2 d1_112 (pc' := 113) rfl rfl ?_
        refine g_istore W2 d1_113 (pc' := 115) rfl (ls' := #[.val (.ref aa), .val (.int af), .val (.int at0), .val (.ref ba), .val (.int bf), .val (.int bt), .val (.ref oa), .val (.int ofr), .val (.int (i + (0 : Int32))), .val (.int (j + (1 : Int32))), .val (.int en), .val (.int k), .val (.int (0 : Int32))]) rfl ?_
        refine g_iinc W2 d1_115 (pc' := 118) rfl rfl (v := (k + (1 : Int32))) (by rfl) (ls' := #[.val (.ref aa), .val (.int af), .val (.int at0), .val (.ref ba), .val (.int bf), .val (.int bt), .val (.ref oa), .val (.int ofr), .val (.int (i + (0 : Int32))), .val (.int (j + (1 : Int32))), .val (.int en), .val (.int (k + (1 : Int32))), .val (.int (0 : Int32))]) rfl ?_
        refine g_goto W2 d1_118 (pc' := 25) (by decide) ?_
        rw [show own_mg (N + 1) [] (y :: ys) = y :: own_mg N [] ys from (own_mgY (by simpa using hN)).trans (congrArg (List.cons y) (own_mgY (n := N) (ys := ys) (by simpa using hN)).symm)]
        exact ih [] ys (i + (0 : Int32)) (j + (1 : Int32)) (k + (1 : Int32)) i0 (j0 + 1) (k0 + 1) (os.set k0 (.double y)) (.val (.int (0 : Int32))) _ (by simp only [List.length_cons, List.length_nil] at hN ⊢; omega) (own_i0 hi) (own_i1 (b := bt) hj (by rw [hbt, List.length_cons]; omega)) (own_i1 (b := en) hk (by rw [hen]; omega)) (by simp only [List.length_cons, List.length_nil] at hat ⊢; omega) (by simp only [List.length_cons, List.length_nil] at hbt ⊢; omega) (by omega) hxs (own_tl hys) (by rw [List.length_set]; omega) (fun _ _ _ _ => rfl) W2 H2
      · refine g_iload W d1_32 (pc' := 34) rfl rfl ?_
        refine g_iload W d1_34 (pc' := 36) rfl rfl ?_
        refine g_icmp W d1_36 (pcy := 57) (by decide) (pc' := 39) rfl (fun (h : j = bt) => absurd hbt (by rw [← h, List.length_cons]; omega)) (fun (_ : ¬ j = bt) => ?_)
        refine g_iload W d1_39 (pc' := 41) rfl rfl ?_
        refine g_iloadN W d1_41 (pc' := 42) rfl rfl ?_
        refine g_icmp W d1_42 (pcy := 61) (by decide) (pc' := 45) rfl (fun (h : ¬ i < at0) => absurd (show i < at0 by rw [Int32.lt_iff_toInt_lt, hat, List.length_cons]; omega) h) (fun (_ : ¬ ¬ i < at0) => ?_)
        refine g_aloadN W d1_45 (pc' := 46) rfl rfl rfl ?_
        refine g_iload W d1_46 (pc' := 48) rfl rfl ?_
        refine g_daload W H (i := 0) rfl (jx := i0) hi (v := .double x) (hxs 0 x rfl) d1_48 (pc' := 49) rfl ?_
        refine g_aloadN W d1_49 (pc' := 50) rfl rfl rfl ?_
        refine g_iload W d1_50 (pc' := 52) rfl rfl ?_
        refine g_daload W H (i := 1) rfl (jx := j0) hj (v := .double y) (hys 0 y rfl) d1_52 (pc' := 53) rfl ?_
        refine g_dcmp W d1_53 (pc' := 54) rfl rfl ?_
        refine g_if W d1_54 (pcy := 61) (by decide) (pc' := 57) rfl (fun (c3 : (0 : Int32) < (cmpValue (FP.dcmp x y) .g)) => ?_) (fun (c3 : ¬ (0 : Int32) < (cmpValue (FP.dcmp x y) .g)) => ?_)
        · refine g_iconst W d1_61 (pc' := 62) rfl (v := (0 : Int32)) (by decide) ?_
          refine g_istore W d1_62 (pc' := 64) rfl (ls' := #[.val (.ref aa), .val (.int af), .val (.int at0), .val (.ref ba), .val (.int bf), .val (.int bt), .val (.ref oa), .val (.int ofr), .val (.int i), .val (.int j), .val (.int en), .val (.int k), .val (.int (0 : Int32))]) (hst _ _ _ _) ?_
          refine g_aload W d1_64 (pc' := 66) rfl rfl rfl ?_
          refine g_iload W d1_66 (pc' := 68) rfl rfl ?_
          refine g_iload W d1_68 (pc' := 70) rfl rfl ?_
          refine g_if W d1_70 (pcy := 80) (by decide) (pc' := 73) rfl (fun _ => ?_) (fun (h : ¬ (0 : Int32) = (0 : Int32)) => absurd h (by decide))
          refine g_aloadN W d1_80 (pc' := 81) rfl rfl rfl ?_
          refine g_iload W d1_81 (pc' := 83) rfl rfl ?_
          refine g_daload W H (i := 1) rfl (jx := j0) hj (v := .double y) (hys 0 y rfl) d1_83 (pc' := 84) rfl ?_
          refine g_dastore W H (i := 2) rfl (jx := k0) hk (by omega) d1_84 (pc' := 85) rfl (L' := ((aa, ArC Z .double avs) :: (ba, ArC Z .double bvs) :: (oa, ArC Z .double (os.set k0 (.double y))) :: F)) rfl ?_
          intro T4 W4 H4
          refine g_iload W4 d1_85 (pc' := 87) rfl rfl ?_
          refine g_iload W4 d1_87 (pc' := 89) rfl rfl ?_
          refine g_if W4 d1_89 (pcy := 96) (by decide) (pc' := 92) rfl (fun _ => ?_) (fun (h : ¬ (0 : Int32) = (0 : Int32)) => absurd h (by decide))
          refine g_iconst W4 d1_96 (pc' := 97) rfl (v := (0 : Int32)) (by decide) ?_
          refine g_iadd W4 d1_97 (pc' := 98) rfl rfl ?_
          refine g_istore W4 d1_98 (pc' := 100) rfl (ls' := #[.val (.ref aa), .val (.int af), .val (.int at0), .val (.ref ba), .val (.int bf), .val (.int bt), .val (.ref oa), .val (.int ofr), .val (.int (i + (0 : Int32))), .val (.int j), .val (.int en), .val (.int k), .val (.int (0 : Int32))]) rfl ?_
          refine g_iload W4 d1_100 (pc' := 102) rfl rfl ?_
          refine g_iload W4 d1_102 (pc' := 104) rfl rfl ?_
          refine g_if W4 d1_104 (pcy := 111) (by decide) (pc' := 107) rfl (fun _ => ?_) (fun (h : ¬ (0 : Int32) = (0 : Int32)) => absurd h (by decide))
          refine g_iconst W4 d1_111 (pc' := 112) rfl (v := (1 : Int32)) (by decide) ?_
          refine g_iadd W4 d1_112 (pc' := 113) rfl rfl ?_
          refine g_istore W4 d1_113 (pc' := 115) rfl (ls' := #[.val (.ref aa), .val (.int af), .val (.int at0), .val (.ref ba), .val (.int bf), .val (.int bt), .val (.ref oa), .val (.int ofr), .val (.int (i + (0 : Int32))), .val (.int (j + (1 : Int32))), .val (.int en), .val (.int k), .val (.int (0 : Int32))]) rfl ?_
          refine g_iinc W4 d1_115 (pc' := 118) rfl rfl (v := (k + (1 : Int32))) (by rfl) (ls' := #[.val (.ref aa), .val (.int af), .val (.int at0), .val (.ref ba), .val (.int bf), .val (.int bt), .val (.ref oa), .val (.int ofr), .val (.int (i + (0 : Int32))), .val (.int (j + (1 : Int32))), .val (.int en), .val (.int (k + (1 : Int32))), .val (.int (0 : Int32))]) rfl ?_
          refine g_goto W4 d1_118 (pc' := 25) (by decide) ?_
          rw [show own_mg (N + 1) (x :: xs) (y :: ys) = y :: own_mg N (x :: xs) ys from own_mgB c3]
          exact ih (x :: xs) ys (i + (0 : Int32)) (j + (1 : Int32)) (k + (1 : Int32)) i0 (j0 + 1) (k0 + 1) (os.set k0 (.double y)) (.val (.int (0 : Int32))) _ (by simp only [List.length_cons, List.length_nil] at hN ⊢; omega) (own_i0 hi) (own_i1 (b := bt) hj (by rw [hbt, List.length_cons]; omega)) (own_i1 (b := en) hk (by rw [hen]; omega)) (by simp only [List.length_cons, List.length_nil] at hat ⊢; omega) (by simp only [List.length_cons, List.length_nil] at hbt ⊢; omega) (by omega) hxs (own_tl hys) (by rw [List.length_set]; omega) (fun _ _ _ _ => rfl) W4 H4
        · refine g_iconst W d1_57 (pc' := 58) rfl (v := (1 : Int32)) (by decide) ?_
          refine g_goto W d1_58 (pc' := 62) (by decide) ?_
          refine g_istore W d1_62 (pc' := 64) rfl (ls' := #[.val (.ref aa), .val (.int af), .val (.int at0), .val (.ref ba), .val (.int bf), .val (.int bt), .val (.ref oa), .val (.int ofr), .val (.int i), .val (.int j), .val (.int en), .val (.int k), .val (.int (1 : Int32))]) (hst _ _ _ _) ?_
          refine g_aload W d1_64 (pc' := 66) rfl rfl rfl ?_
          refine g_iload W d1_66 (pc' := 68) rfl rfl ?_
          refine g_iload W d1_68 (pc' := 70) rfl rfl ?_
          refine g_if W d1_70 (pcy := 80) (by decide) (pc' := 73) rfl (fun (h : (1 : Int32) = (0 : Int32)) => absurd h (by decide)) (fun _ => ?_)
          refine g_aloadN W d1_73 (pc' := 74) rfl rfl rfl ?_
          refine g_iload W d1_74 (pc' := 76) rfl rfl ?_
          refine g_daload W H (i := 0) rfl (jx := i0) hi (v := .double x) (hxs 0 x rfl) d1_76 (pc' := 77) rfl ?_
          refine g_goto W d1_77 (pc' := 84) (by decide) ?_
          refine g_dastore W H (i := 2) rfl (jx := k0) hk (by omega) d1_84 (pc' := 85) rfl (L' := ((aa, ArC Z .double avs) :: (ba, ArC Z .double bvs) :: (oa, ArC Z .double (os.set k0 (.double x))) :: F)) rfl ?_
          intro T5 W5 H5
          refine g_iload W5 d1_85 (pc' := 87) rfl rfl ?_
          refine g_iload W5 d1_87 (pc' := 89) rfl rfl ?_
          refine g_if W5 d1_89 (pcy := 96) (by decide) (pc' := 92) rfl (fun (h : (1 : Int32) = (0 : Int32)) => absurd h (by decide)) (fun _ => ?_)
          refine g_iconst W5 d1_92 (pc' := 93) rfl (v := (1 : Int32)) (by decide) ?_
          refine g_goto W5 d1_93 (pc' := 97) (by decide) ?_
          refine g_iadd W5 d1_97 (pc' := 98) rfl rfl ?_
          refine g_istore W5 d1_98 (pc' := 100) rfl (ls' := #[.val (.ref aa), .val (.int af), .val (.int at0), .val (.ref ba), .val (.int bf), .val (.int bt), .val (.ref oa), .val (.int ofr), .val (.int (i + (1 : Int32))), .val (.int j), .val (.int en), .val (.int k), .val (.int (1 : Int32))]) rfl ?_
          refine g_iload W5 d1_100 (pc' := 102) rfl rfl ?_
          refine g_iload W5 d1_102 (pc' := 104) rfl rfl ?_
          refine g_if W5 d1_104 (pcy := 111) (by decide) (pc' := 107) rfl (fun (h : (1 : Int32) = (0 : Int32)) => absurd h (by decide)) (fun _ => ?_)
          refine g_iconst W5 d1_107 (pc' := 108) rfl (v := (0 : Int32)) (by decide) ?_
          refine g_goto W5 d1_108 (pc' := 112) (by decide) ?_
          refine g_iadd W5 d1_112 (pc' := 113) rfl rfl ?_
          refine g_istore W5 d1_113 (pc' := 115) rfl (ls' := #[.val (.ref aa), .val (.int af), .val (.int at0), .val (.ref ba), .val (.int bf), .val (.int bt), .val (.ref oa), .val (.int ofr), .val (.int (i + (1 : Int32))), .val (.int (j + (0 : Int32))), .val (.int en), .val (.int k), .val (.int (1 : Int32))]) rfl ?_
          refine g_iinc W5 d1_115 (pc' := 118) rfl rfl (v := (k + (1 : Int32))) (by rfl) (ls' := #[.val (.ref aa), .val (.int af), .val (.int at0), .val (.ref ba), .val (.int bf), .val (.int bt), .val (.ref oa), .val (.int ofr), .val (.int (i + (1 : Int32))), .val (.int (j + (0 : Int32))), .val (.int en), .val (.int (k + (1 : Int32))), .val (.int (1 : Int32))]) rfl ?_
          refine g_goto W5 d1_118 (pc' := 25) (by decide) ?_
          rw [show own_mg (N + 1) (x :: xs) (y :: ys) = x :: own_mg N xs (y :: ys) from own_mgA c3]
          exact ih xs (y :: ys) (i + (1 : Int32)) (j + (0 : Int32)) (k + (1 : Int32)) (i0 + 1) j0 (k0 + 1) (os.set k0 (.double x)) (.val (.int (1 : Int32))) _ (by simp only [List.length_cons, List.length_nil] at hN ⊢; omega) (own_i1 (b := at0) hi (by rw [hat, List.length_cons]; omega)) (own_i0 hj) (own_i1 (b := en) hk (by rw [hen]; omega)) (by simp only [List.length_cons, List.length_nil] at hat ⊢; omega) (by simp only [List.length_cons, List.length_nil] at hbt ⊢; omega) (by omega) (own_tl hxs) hys (by rw [List.length_set]; omega) (fun _ _ _ _ => rfl) W5 H5
set_option maxRecDepth 65536 in
set_option maxHeartbeats 40000000 in
theorem c_merge (l : Launch) (Z : State) (a0 : Array Value) (hw : ∀ d ∈ tables_1, d.before a0 Z = true) (n0 : Nat) (aa ba oa : Addr) (avs bvs : List Value) (af at0 bf bt ofr : Int32) (N : Nat) (xs ys : List UInt64) (i0 j0 k0 : Nat) (os : List Value) (hN : xs.length + ys.length = N) (hi : af.toInt = (i0 : Int)) (hj : bf.toInt = (j0 : Int)) (hk : ofr.toInt = (k0 : Int)) (hat : at0.toInt = (i0 : Int) + xs.length) (hbt : bt.toInt = (j0 : Int) + ys.length) (hen : ((ofr + (at0 - af)) + (bt - bf)).toInt = (k0 : Int) + N) (hxs : ∀ t z, xs[t]? = some z → avs[i0 + t]? = some (.double z)) (hys : ∀ t z, ys[t]? = some z → bvs[j0 + t]? = some (.double z)) (hos : k0 + N ≤ os.length) (h0 : Heap) (F : List HRow) (H00 : Hp Z n0 h0 ((aa, ArC Z .double avs) :: (ba, ArC Z .double bvs) :: (oa, ArC Z .double os) :: F)) :
    Con l Z n0 ⟨"com/example/tallymark/tallymark/window/SortedRuns", "merge", "([DII[DII[DI)V"⟩ [] prog_67_method_2_code 13 none ({ frames := 0, cells := 0, slots := 0, locals := 0 } : Room) #[.ref aa, .int af, .int at0, .ref ba, .int bf, .int bt, .ref oa, .int ofr] h0 (fun v h => v = none ∧ Hp Z n0 h ((aa, ArC Z .double avs) :: (ba, ArC Z .double bvs) :: (oa, ArC Z .double (own_put os k0 (own_mg N xs ys))) :: F)) := by
  refine con_of (plainFor_of_name pn_SortedRuns) ?_
  intro p e s m below meth c T0 W0 e0
  have H0 : Hp Z n0 T0.heap ((aa, ArC Z .double avs) :: (ba, ArC Z .double bvs) :: (oa, ArC Z .double os) :: F) := e0 ▸ H00
  refine g_cast (ef_1 m aa af at0 ba bf bt oa ofr) ?_
  refine g_iloadN W0 d1_0 (pc' := 1) rfl rfl ?_
  refine g_istore W0 d1_1 (pc' := 3) rfl (ls' := #[.val (.ref aa), .val (.int af), .val (.int at0), .val (.ref ba), .val (.int bf), .val (.int bt), .val (.ref oa), .val (.int ofr), .val (.int af), .unset, .unset, .unset, .unset]) rfl ?_
  refine g_iload W0 d1_3 (pc' := 5) rfl rfl ?_
  refine g_istore W0 d1_5 (pc' := 7) rfl (ls' := #[.val (.ref aa), .val (.int af), .val (.int at0), .val (.ref ba), .val (.int bf), .val (.int bt), .val (.ref oa), .val (.int ofr), .val (.int af), .val (.int bf), .unset, .unset, .unset]) rfl ?_
  refine g_iload W0 d1_7 (pc' := 9) rfl rfl ?_
  refine g_iloadN W0 d1_9 (pc' := 10) rfl rfl ?_
  refine g_iloadN W0 d1_10 (pc' := 11) rfl rfl ?_
  refine g_isub W0 d1_11 (pc' := 12) rfl rfl ?_
  refine g_iadd W0 d1_12 (pc' := 13) rfl rfl ?_
  refine g_iload W0 d1_13 (pc' := 15) rfl rfl ?_
  refine g_iload W0 d1_15 (pc' := 17) rfl rfl ?_
  refine g_isub W0 d1_17 (pc' := 18) rfl rfl ?_
  refine g_iadd W0 d1_18 (pc' := 19) rfl rfl ?_
  refine g_istore W0 d1_19 (pc' := 21) rfl (ls' := #[.val (.ref aa), .val (.int af), .val (.int at0), .val (.ref ba), .val (.int bf), .val (.int bt), .val (.ref oa), .val (.int ofr), .val (.int af), .val (.int bf), .val (.int ((ofr + (at0 - af)) + (bt - bf))), .unset, .unset]) rfl ?_
  refine g_iload W0 d1_21 (pc' := 23) rfl rfl ?_
  refine g_istore W0 d1_23 (pc' := 25) rfl (ls' := #[.val (.ref aa), .val (.int af), .val (.int at0), .val (.ref ba), .val (.int bf), .val (.int bt), .val (.ref oa), .val (.int ofr), .val (.int af), .val (.int bf), .val (.int ((ofr + (at0 - af)) + (bt - bf))), .val (.int ofr), .unset]) rfl ?_
  exact m_loop l Z a0 hw n0 aa ba oa avs bvs af at0 bf bt ofr ((ofr + (at0 - af)) + (bt - bf)) F _ p e s m below meth c N xs ys af bf ofr i0 j0 k0 os .unset _ hN hi hj hk hat hbt hen hxs hys hos (fun _ _ _ _ => rfl) W0 H0
set_option maxRecDepth 65536 in
set_option maxHeartbeats 40000000 in
theorem c_cntLess (l : Launch) (Z : State) (a0 : Array Value) (hw : ∀ d ∈ tables_1, d.before a0 Z = true) (n0 : Nat) (x y0 y1 : UInt64) (n : Int32) (ys : List UInt64) (hy : ys = [] ∨ ys = [y0] ∨ ys = [y0, y1]) (hn : n.toInt = (ys.length : Int)) (r : Int32) (hr : r.toInt = ((own_cL x ys : Nat) : Int)) (h0 : Heap) (F : List HRow) (H00 : Hp Z n0 h0 F) :
    Con l Z n0 ⟨"com/example/tallymark/tallymark/window/SortedRunsMergePinLaw", "cntLess", "(DIDD)I"⟩ [] method_2_code 8 (some .int) ({ frames := 0, cells := 0, slots := 0, locals := 0 } : Room) #[.double x, .int n, .double y0, .double y1] h0 (fun v h => v = some (.int r) ∧ Hp Z n0 h F) := by
  refine con_of (plainFor_of_name pn_SortedRunsMergePinLaw) ?_
  intro p e s m below meth c T0 W0 e0
  have H0 : Hp Z n0 T0.heap F := e0 ▸ H00
  refine g_cast (ef_3 m x n y0 y1) ?_
  rcases hy with rfl | rfl | rfl
  · obtain rfl : n = (0 : Int32) := i32_lit (k := 0) (by simpa using hn) (by decide)
    refine g_iconst W0 d3_0 (pc' := 1) rfl (v := (0 : Int32)) (by decide) ?_
    refine g_istore W0 d3_1 (pc' := 3) rfl (ls' := #[.val (.double x), .second, .val (.int (0 : Int32)), .val (.double y0), .second, .val (.double y1), .second, .val (.int (0 : Int32))]) rfl ?_
    refine g_iloadN W0 d3_3 (pc' := 4) rfl rfl ?_
    refine g_iconst W0 d3_4 (pc' := 5) rfl (v := (1 : Int32)) (by decide) ?_
    refine g_icmp W0 d3_5 (pcy := 17) (by decide) (pc' := 8) rfl (fun _ => ?_) (fun (h : ¬ (0 : Int32) < (1 : Int32)) => absurd h (by decide))
    refine g_iloadN W0 d3_17 (pc' := 18) rfl rfl ?_
    refine g_iconst W0 d3_18 (pc' := 19) rfl (v := (2 : Int32)) (by decide) ?_
    refine g_icmp W0 d3_19 (pcy := 32) (by decide) (pc' := 22) rfl (fun _ => ?_) (fun (h : ¬ (0 : Int32) < (2 : Int32)) => absurd h (by decide))
    refine g_iload W0 d3_32 (pc' := 34) rfl rfl ?_
    obtain rfl : r = (0 : Int32) := i32_lit (k := 0) (by rw [hr]; simp [own_cL]) (by decide)
    exact g_ireturn W0 d3_34 ⟨rfl, H0⟩ (by decide) (by decide)
  · obtain rfl : n = (1 : Int32) := i32_lit (k := 1) (by simpa using hn) (by decide)
    refine g_iconst W0 d3_0 (pc' := 1) rfl (v := (0 : Int32)) (by decide) ?_
    refine g_istore W0 d3_1 (pc' := 3) rfl (ls' := #[.val (.double x), .second, .val (.int (1 : Int32)), .val (.double y0), .second, .val (.double y1), .second, .val (.int (0 : Int32))]) rfl ?_
    refine g_iloadN W0 d3_3 (pc' := 4) rfl rfl ?_
    refine g_iconst W0 d3_4 (pc' := 5) rfl (v := (1 : Int32)) (by decide) ?_
    refine g_icmp W0 d3_5 (pcy := 17) (by decide) (pc' := 8) rfl (fun (h : (1 : Int32) < (1 : Int32)) => absurd h (by decide)) (fun _ => ?_)
    refine g_dloadN W0 d3_8 (pc' := 9) rfl rfl ?_
    refine g_dloadN W0 d3_9 (pc' := 10) rfl rfl ?_
    refine g_dcmp W0 d3_10 (pc' := 11) rfl rfl ?_
    refine g_if W0 d3_11 (pcy := 17) (by decide) (pc' := 14) rfl (fun (c1 : ¬ (cmpValue (FP.dcmp y0 x) .g) < (0 : Int32)) => ?_) (fun (c1 : ¬ ¬ (cmpValue (FP.dcmp y0 x) .g) < (0 : Int32)) => ?_)
    · refine g_iloadN W0 d3_17 (pc' := 18) rfl rfl ?_
      refine g_iconst W0 d3_18 (pc' := 19) rfl (v := (2 : Int32)) (by decide) ?_
      refine g_icmp W0 d3_19 (pcy := 32) (by decide) (pc' := 22) rfl (fun _ => ?_) (fun (h : ¬ (1 : Int32) < (2 : Int32)) => absurd h (by decide))
      refine g_iload W0 d3_32 (pc' := 34) rfl rfl ?_
      obtain rfl : r = (0 : Int32) := i32_lit (k := 0) (by rw [hr]; simp [own_cL, c1]) (by decide)
      exact g_ireturn W0 d3_34 ⟨rfl, H0⟩ (by decide) (by decide)
    · replace c1 := Classical.not_not.mp c1
      refine g_iinc W0 d3_14 (pc' := 17) rfl rfl (v := (1 : Int32)) (by decide) (ls' := #[.val (.double x), .second, .val (.int (1 : Int32)), .val (.double y0), .second, .val (.double y1), .second, .val (.int (1 : Int32))]) rfl ?_
      refine g_iloadN W0 d3_17 (pc' := 18) rfl rfl ?_
      refine g_iconst W0 d3_18 (pc' := 19) rfl (v := (2 : Int32)) (by decide) ?_
      refine g_icmp W0 d3_19 (pcy := 32) (by decide) (pc' := 22) rfl (fun _ => ?_) (fun (h : ¬ (1 : Int32) < (2 : Int32)) => absurd h (by decide))
      refine g_iload W0 d3_32 (pc' := 34) rfl rfl ?_
      obtain rfl : r = (1 : Int32) := i32_lit (k := 1) (by rw [hr]; simp [own_cL, c1]) (by decide)
      exact g_ireturn W0 d3_34 ⟨rfl, H0⟩ (by decide) (by decide)
  · obtain rfl : n = (2 : Int32) := i32_lit (k := 2) (by simpa using hn) (by decide)
    refine g_iconst W0 d3_0 (pc' := 1) rfl (v := (0 : Int32)) (by decide) ?_
    refine g_istore W0 d3_1 (pc' := 3) rfl (ls' := #[.val (.double x), .second, .val (.int (2 : Int32)), .val (.double y0), .second, .val (.double y1), .second, .val (.int (0 : Int32))]) rfl ?_
    refine g_iloadN W0 d3_3 (pc' := 4) rfl rfl ?_
    refine g_iconst W0 d3_4 (pc' := 5) rfl (v := (1 : Int32)) (by decide) ?_
    refine g_icmp W0 d3_5 (pcy := 17) (by decide) (pc' := 8) rfl (fun (h : (2 : Int32) < (1 : Int32)) => absurd h (by decide)) (fun _ => ?_)
    refine g_dloadN W0 d3_8 (pc' := 9) rfl rfl ?_
    refine g_dloadN W0 d3_9 (pc' := 10) rfl rfl ?_
    refine g_dcmp W0 d3_10 (pc' := 11) rfl rfl ?_
    refine g_if W0 d3_11 (pcy := 17) (by decide) (pc' := 14) rfl (fun (c2 : ¬ (cmpValue (FP.dcmp y0 x) .g) < (0 : Int32)) => ?_) (fun (c2 : ¬ ¬ (cmpValue (FP.dcmp y0 x) .g) < (0 : Int32)) => ?_)
    · refine g_iloadN W0 d3_17 (pc' := 18) rfl rfl ?_
      refine g_iconst W0 d3_18 (pc' := 19) rfl (v := (2 : Int32)) (by decide) ?_
      refine g_icmp W0 d3_19 (pcy := 32) (by decide) (pc' := 22) rfl (fun (h : (2 : Int32) < (2 : Int32)) => absurd h (by decide)) (fun _ => ?_)
      refine g_dload W0 d3_22 (pc' := 24) rfl rfl ?_
      refine g_dloadN W0 d3_24 (pc' := 25) rfl rfl ?_
      refine g_dcmp W0 d3_25 (pc' := 26) rfl rfl ?_
      refine g_if W0 d3_26 (pcy := 32) (by decide) (pc' := 29) rfl (fun (c3 : ¬ (cmpValue (FP.dcmp y1 x) .g) < (0 : Int32)) => ?_) (fun (c3 : ¬ ¬ (cmpValue (FP.dcmp y1 x) .g) < (0 : Int32)) => ?_)
      · refine g_iload W0 d3_32 (pc' := 34) rfl rfl ?_
        obtain rfl : r = (0 : Int32) := i32_lit (k := 0) (by rw [hr]; simp [own_cL, c2, c3]) (by decide)
        exact g_ireturn W0 d3_34 ⟨rfl, H0⟩ (by decide) (by decide)
      · replace c3 := Classical.not_not.mp c3
        refine g_iinc W0 d3_29 (pc' := 32) rfl rfl (v := (1 : Int32)) (by decide) (ls' := #[.val (.double x), .second, .val (.int (2 : Int32)), .val (.double y0), .second, .val (.double y1), .second, .val (.int (1 : Int32))]) rfl ?_
        refine g_iload W0 d3_32 (pc' := 34) rfl rfl ?_
        obtain rfl : r = (1 : Int32) := i32_lit (k := 1) (by rw [hr]; simp [own_cL, c2, c3]) (by decide)
        exact g_ireturn W0 d3_34 ⟨rfl, H0⟩ (by decide) (by decide)
    · replace c2 := Classical.not_not.mp c2
      refine g_iinc W0 d3_14 (pc' := 17) rfl rfl (v := (1 : Int32)) (by decide) (ls' := #[.val (.double x), .second, .val (.int (2 : Int32)), .val (.double y0), .second, .val (.double y1), .second, .val (.int (1 : Int32))]) rfl ?_
      refine g_iloadN W0 d3_17 (pc' := 18) rfl rfl ?_
      refine g_iconst W0 d3_18 (pc' := 19) rfl (v := (2 : Int32)) (by decide) ?_
      refine g_icmp W0 d3_19 (pcy := 32) (by decide) (pc' := 22) rfl (fun (h : (2 : Int32) < (2 : Int32)) => absurd h (by decide)) (fun _ => ?_)
      refine g_dload W0 d3_22 (pc' := 24) rfl rfl ?_
      refine g_dloadN W0 d3_24 (pc' := 25) rfl rfl ?_
      refine g_dcmp W0 d3_25 (pc' := 26) rfl rfl ?_
      refine g_if W0 d3_26 (pcy := 32) (by decide) (pc' := 29) rfl (fun (c4 : ¬ (cmpValue (FP.dcmp y1 x) .g) < (0 : Int32)) => ?_) (fun (c4 : ¬ ¬ (cmpValue (FP.dcmp y1 x) .g) < (0 : Int32)) => ?_)
      · refine g_iload W0 d3_32 (pc' := 34) rfl rfl ?_
        obtain rfl : r = (1 : Int32) := i32_lit (k := 1) (by rw [hr]; simp [own_cL, c2, c4]) (by decide)
        exact g_ireturn W0 d3_34 ⟨rfl, H0⟩ (by decide) (by decide)
      · replace c4 := Classical.not_not.mp c4
        refine g_iinc W0 d3_29 (pc' := 32) rfl rfl (v := (2 : Int32)) (by decide) (ls' := #[.val (.double x), .second, .val (.int (2 : Int32)), .val (.double y0), .second, .val (.double y1), .second, .val (.int (2 : Int32))]) rfl ?_
        refine g_iload W0 d3_32 (pc' := 34) rfl rfl ?_
        obtain rfl : r = (2 : Int32) := i32_lit (k := 2) (by rw [hr]; simp [own_cL, c2, c4]) (by decide)
        exact g_ireturn W0 d3_34 ⟨rfl, H0⟩ (by decide) (by decide)
set_option maxRecDepth 65536 in
set_option maxHeartbeats 40000000 in
theorem c_cntLe (l : Launch) (Z : State) (a0 : Array Value) (hw : ∀ d ∈ tables_1, d.before a0 Z = true) (n0 : Nat) (x y0 y1 : UInt64) (n : Int32) (ys : List UInt64) (hy : ys = [] ∨ ys = [y0] ∨ ys = [y0, y1]) (hn : n.toInt = (ys.length : Int)) (r : Int32) (hr : r.toInt = ((own_cE x ys : Nat) : Int)) (h0 : Heap) (F : List HRow) (H00 : Hp Z n0 h0 F) :
    Con l Z n0 ⟨"com/example/tallymark/tallymark/window/SortedRunsMergePinLaw", "cntLe", "(DIDD)I"⟩ [] method_3_code 8 (some .int) ({ frames := 0, cells := 0, slots := 0, locals := 0 } : Room) #[.double x, .int n, .double y0, .double y1] h0 (fun v h => v = some (.int r) ∧ Hp Z n0 h F) := by
  refine con_of (plainFor_of_name pn_SortedRunsMergePinLaw) ?_
  intro p e s m below meth c T0 W0 e0
  have H0 : Hp Z n0 T0.heap F := e0 ▸ H00
  refine g_cast (ef_4 m x n y0 y1) ?_
  rcases hy with rfl | rfl | rfl
  · obtain rfl : n = (0 : Int32) := i32_lit (k := 0) (by simpa using hn) (by decide)
    refine g_iconst W0 d4_0 (pc' := 1) rfl (v := (0 : Int32)) (by decide) ?_
    refine g_istore W0 d4_1 (pc' := 3) rfl (ls' := #[.val (.double x), .second, .val (.int (0 : Int32)), .val (.double y0), .second, .val (.double y1), .second, .val (.int (0 : Int32))]) rfl ?_
    refine g_iloadN W0 d4_3 (pc' := 4) rfl rfl ?_
    refine g_iconst W0 d4_4 (pc' := 5) rfl (v := (1 : Int32)) (by decide) ?_
    refine g_icmp W0 d4_5 (pcy := 17) (by decide) (pc' := 8) rfl (fun _ => ?_) (fun (h : ¬ (0 : Int32) < (1 : Int32)) => absurd h (by decide))
    refine g_iloadN W0 d4_17 (pc' := 18) rfl rfl ?_
    refine g_iconst W0 d4_18 (pc' := 19) rfl (v := (2 : Int32)) (by decide) ?_
    refine g_icmp W0 d4_19 (pcy := 32) (by decide) (pc' := 22) rfl (fun _ => ?_) (fun (h : ¬ (0 : Int32) < (2 : Int32)) => absurd h (by decide))
    refine g_iload W0 d4_32 (pc' := 34) rfl rfl ?_
    obtain rfl : r = (0 : Int32) := i32_lit (k := 0) (by rw [hr]; simp [own_cE]) (by decide)
    exact g_ireturn W0 d4_34 ⟨rfl, H0⟩ (by decide) (by decide)
  · obtain rfl : n = (1 : Int32) := i32_lit (k := 1) (by simpa using hn) (by decide)
    refine g_iconst W0 d4_0 (pc' := 1) rfl (v := (0 : Int32)) (by decide) ?_
    refine g_istore W0 d4_1 (pc' := 3) rfl (ls' := #[.val (.double x), .second, .val (.int (1 : Int32)), .val (.double y0), .second, .val (.double y1), .second, .val (.int (0 : Int32))]) rfl ?_
    refine g_iloadN W0 d4_3 (pc' := 4) rfl rfl ?_
    refine g_iconst W0 d4_4 (pc' := 5) rfl (v := (1 : Int32)) (by decide) ?_
    refine g_icmp W0 d4_5 (pcy := 17) (by decide) (pc' := 8) rfl (fun (h : (1 : Int32) < (1 : Int32)) => absurd h (by decide)) (fun _ => ?_)
    refine g_dloadN W0 d4_8 (pc' := 9) rfl rfl ?_
    refine g_dloadN W0 d4_9 (pc' := 10) rfl rfl ?_
    refine g_dcmp W0 d4_10 (pc' := 11) rfl rfl ?_
    refine g_if W0 d4_11 (pcy := 17) (by decide) (pc' := 14) rfl (fun (c1 : (0 : Int32) < (cmpValue (FP.dcmp y0 x) .g)) => ?_) (fun (c1 : ¬ (0 : Int32) < (cmpValue (FP.dcmp y0 x) .g)) => ?_)
    · refine g_iloadN W0 d4_17 (pc' := 18) rfl rfl ?_
      refine g_iconst W0 d4_18 (pc' := 19) rfl (v := (2 : Int32)) (by decide) ?_
      refine g_icmp W0 d4_19 (pcy := 32) (by decide) (pc' := 22) rfl (fun _ => ?_) (fun (h : ¬ (1 : Int32) < (2 : Int32)) => absurd h (by decide))
      refine g_iload W0 d4_32 (pc' := 34) rfl rfl ?_
      obtain rfl : r = (0 : Int32) := i32_lit (k := 0) (by rw [hr]; simp [own_cE, c1]) (by decide)
      exact g_ireturn W0 d4_34 ⟨rfl, H0⟩ (by decide) (by decide)
    · refine g_iinc W0 d4_14 (pc' := 17) rfl rfl (v := (1 : Int32)) (by decide) (ls' := #[.val (.double x), .second, .val (.int (1 : Int32)), .val (.double y0), .second, .val (.double y1), .second, .val (.int (1 : Int32))]) rfl ?_
      refine g_iloadN W0 d4_17 (pc' := 18) rfl rfl ?_
      refine g_iconst W0 d4_18 (pc' := 19) rfl (v := (2 : Int32)) (by decide) ?_
      refine g_icmp W0 d4_19 (pcy := 32) (by decide) (pc' := 22) rfl (fun _ => ?_) (fun (h : ¬ (1 : Int32) < (2 : Int32)) => absurd h (by decide))
      refine g_iload W0 d4_32 (pc' := 34) rfl rfl ?_
      obtain rfl : r = (1 : Int32) := i32_lit (k := 1) (by rw [hr]; simp [own_cE, c1]) (by decide)
      exact g_ireturn W0 d4_34 ⟨rfl, H0⟩ (by decide) (by decide)
  · obtain rfl : n = (2 : Int32) := i32_lit (k := 2) (by simpa using hn) (by decide)
    refine g_iconst W0 d4_0 (pc' := 1) rfl (v := (0 : Int32)) (by decide) ?_
    refine g_istore W0 d4_1 (pc' := 3) rfl (ls' := #[.val (.double x), .second, .val (.int (2 : Int32)), .val (.double y0), .second, .val (.double y1), .second, .val (.int (0 : Int32))]) rfl ?_
    refine g_iloadN W0 d4_3 (pc' := 4) rfl rfl ?_
    refine g_iconst W0 d4_4 (pc' := 5) rfl (v := (1 : Int32)) (by decide) ?_
    refine g_icmp W0 d4_5 (pcy := 17) (by decide) (pc' := 8) rfl (fun (h : (2 : Int32) < (1 : Int32)) => absurd h (by decide)) (fun _ => ?_)
    refine g_dloadN W0 d4_8 (pc' := 9) rfl rfl ?_
    refine g_dloadN W0 d4_9 (pc' := 10) rfl rfl ?_
    refine g_dcmp W0 d4_10 (pc' := 11) rfl rfl ?_
    refine g_if W0 d4_11 (pcy := 17) (by decide) (pc' := 14) rfl (fun (c2 : (0 : Int32) < (cmpValue (FP.dcmp y0 x) .g)) => ?_) (fun (c2 : ¬ (0 : Int32) < (cmpValue (FP.dcmp y0 x) .g)) => ?_)
    · refine g_iloadN W0 d4_17 (pc' := 18) rfl rfl ?_
      refine g_iconst W0 d4_18 (pc' := 19) rfl (v := (2 : Int32)) (by decide) ?_
      refine g_icmp W0 d4_19 (pcy := 32) (by decide) (pc' := 22) rfl (fun (h : (2 : Int32) < (2 : Int32)) => absurd h (by decide)) (fun _ => ?_)
      refine g_dload W0 d4_22 (pc' := 24) rfl rfl ?_
      refine g_dloadN W0 d4_24 (pc' := 25) rfl rfl ?_
      refine g_dcmp W0 d4_25 (pc' := 26) rfl rfl ?_
      refine g_if W0 d4_26 (pcy := 32) (by decide) (pc' := 29) rfl (fun (c3 : (0 : Int32) < (cmpValue (FP.dcmp y1 x) .g)) => ?_) (fun (c3 : ¬ (0 : Int32) < (cmpValue (FP.dcmp y1 x) .g)) => ?_)
      · refine g_iload W0 d4_32 (pc' := 34) rfl rfl ?_
        obtain rfl : r = (0 : Int32) := i32_lit (k := 0) (by rw [hr]; simp [own_cE, c2, c3]) (by decide)
        exact g_ireturn W0 d4_34 ⟨rfl, H0⟩ (by decide) (by decide)
      · refine g_iinc W0 d4_29 (pc' := 32) rfl rfl (v := (1 : Int32)) (by decide) (ls' := #[.val (.double x), .second, .val (.int (2 : Int32)), .val (.double y0), .second, .val (.double y1), .second, .val (.int (1 : Int32))]) rfl ?_
        refine g_iload W0 d4_32 (pc' := 34) rfl rfl ?_
        obtain rfl : r = (1 : Int32) := i32_lit (k := 1) (by rw [hr]; simp [own_cE, c2, c3]) (by decide)
        exact g_ireturn W0 d4_34 ⟨rfl, H0⟩ (by decide) (by decide)
    · refine g_iinc W0 d4_14 (pc' := 17) rfl rfl (v := (1 : Int32)) (by decide) (ls' := #[.val (.double x), .second, .val (.int (2 : Int32)), .val (.double y0), .second, .val (.double y1), .second, .val (.int (1 : Int32))]) rfl ?_
      refine g_iloadN W0 d4_17 (pc' := 18) rfl rfl ?_
      refine g_iconst W0 d4_18 (pc' := 19) rfl (v := (2 : Int32)) (by decide) ?_
      refine g_icmp W0 d4_19 (pcy := 32) (by decide) (pc' := 22) rfl (fun (h : (2 : Int32) < (2 : Int32)) => absurd h (by decide)) (fun _ => ?_)
      refine g_dload W0 d4_22 (pc' := 24) rfl rfl ?_
      refine g_dloadN W0 d4_24 (pc' := 25) rfl rfl ?_
      refine g_dcmp W0 d4_25 (pc' := 26) rfl rfl ?_
      refine g_if W0 d4_26 (pcy := 32) (by decide) (pc' := 29) rfl (fun (c4 : (0 : Int32) < (cmpValue (FP.dcmp y1 x) .g)) => ?_) (fun (c4 : ¬ (0 : Int32) < (cmpValue (FP.dcmp y1 x) .g)) => ?_)
      · refine g_iload W0 d4_32 (pc' := 34) rfl rfl ?_
        obtain rfl : r = (1 : Int32) := i32_lit (k := 1) (by rw [hr]; simp [own_cE, c2, c4]) (by decide)
        exact g_ireturn W0 d4_34 ⟨rfl, H0⟩ (by decide) (by decide)
      · refine g_iinc W0 d4_29 (pc' := 32) rfl rfl (v := (2 : Int32)) (by decide) (ls' := #[.val (.double x), .second, .val (.int (2 : Int32)), .val (.double y0), .second, .val (.double y1), .second, .val (.int (2 : Int32))]) rfl ?_
        refine g_iload W0 d4_32 (pc' := 34) rfl rfl ?_
        obtain rfl : r = (2 : Int32) := i32_lit (k := 2) (by rw [hr]; simp [own_cE, c2, c4]) (by decide)
        exact g_ireturn W0 d4_34 ⟨rfl, H0⟩ (by decide) (by decide)
set_option maxRecDepth 65536 in
set_option maxHeartbeats 40000000 in
theorem c_unt (l : Launch) (Z : State) (a0 : Array Value) (hw : ∀ d ∈ tables_1, d.before a0 Z = true) (n0 : Nat) (oa : Addr) (k ofr n : Int32) (se : UInt64) (vs : List Value) (kx : Nat) (hk : k.toInt = (kx : Int)) (hv : (k < ofr ∨ ¬ k < (ofr + n)) → vs[kx]? = some (.double se)) (hse : NoNaN64 se) (h0 : Heap) (F : List HRow) (H00 : Hp Z n0 h0 ((oa, ArC Z .double vs) :: F)) :
    Con l Z n0 ⟨"com/example/tallymark/tallymark/window/SortedRunsMergePinLaw", "untouched", "([DIIID)Z"⟩ [] method_4_code 6 (some .boolean) ({ frames := 0, cells := 0, slots := 0, locals := 0 } : Room) #[.ref oa, .int k, .int ofr, .int n, .double se] h0 (fun v h => v = some (.int 1) ∧ Hp Z n0 h ((oa, ArC Z .double vs) :: F)) := by
  refine con_of (plainFor_of_name pn_SortedRunsMergePinLaw) ?_
  intro p e s m below meth c T0 W0 e0
  have H0 : Hp Z n0 T0.heap ((oa, ArC Z .double vs) :: F) := e0 ▸ H00
  refine g_cast (ef_2 m oa k ofr n se) ?_
  refine g_iloadN W0 d2_0 (pc' := 1) rfl rfl ?_
  refine g_iloadN W0 d2_1 (pc' := 2) rfl rfl ?_
  refine g_icmp W0 d2_2 (pcy := 14) (by decide) (pc' := 5) rfl (fun (c1 : k < ofr) => ?_) (fun (c1 : ¬ k < ofr) => ?_)
  · refine g_aloadN W0 d2_14 (pc' := 15) rfl rfl rfl ?_
    refine g_iloadN W0 d2_15 (pc' := 16) rfl rfl ?_
    refine g_daload W0 H0 (i := 0) rfl (jx := kx) hk (v := .double se) (hv (Or.inl c1)) d2_16 (pc' := 17) rfl ?_
    refine g_dload W0 d2_17 (pc' := 19) rfl rfl ?_
    refine g_dcmp W0 d2_19 (pc' := 20) rfl rfl ?_
    rw [show (cmpValue (FP.dcmp se se) .l) = (0 : Int32) from dcmpV_self hse .l]
    refine g_if W0 d2_20 (pcy := 27) (by decide) (pc' := 23) rfl (fun (h : ¬ (0 : Int32) = (0 : Int32)) => absurd h (by decide)) (fun _ => ?_)
    refine g_iconst W0 d2_23 (pc' := 24) rfl (v := (1 : Int32)) (by decide) ?_
    refine g_goto W0 d2_24 (pc' := 28) (by decide) ?_
    exact g_zreturn W0 (by decide) d2_28 ⟨rfl, H0⟩ (by decide) (by decide)
  · refine g_iloadN W0 d2_5 (pc' := 6) rfl rfl ?_
    refine g_iloadN W0 d2_6 (pc' := 7) rfl rfl ?_
    refine g_iloadN W0 d2_7 (pc' := 8) rfl rfl ?_
    refine g_iadd W0 d2_8 (pc' := 9) rfl rfl ?_
    refine g_icmp W0 d2_9 (pcy := 14) (by decide) (pc' := 12) rfl (fun (c2 : ¬ k < (ofr + n)) => ?_) (fun (c2 : ¬ ¬ k < (ofr + n)) => ?_)
    · refine g_aloadN W0 d2_14 (pc' := 15) rfl rfl rfl ?_
      refine g_iloadN W0 d2_15 (pc' := 16) rfl rfl ?_
      refine g_daload W0 H0 (i := 0) rfl (jx := kx) hk (v := .double se) (hv (Or.inr c2)) d2_16 (pc' := 17) rfl ?_
      refine g_dload W0 d2_17 (pc' := 19) rfl rfl ?_
      refine g_dcmp W0 d2_19 (pc' := 20) rfl rfl ?_
      rw [show (cmpValue (FP.dcmp se se) .l) = (0 : Int32) from dcmpV_self hse .l]
      refine g_if W0 d2_20 (pcy := 27) (by decide) (pc' := 23) rfl (fun (h : ¬ (0 : Int32) = (0 : Int32)) => absurd h (by decide)) (fun _ => ?_)
      refine g_iconst W0 d2_23 (pc' := 24) rfl (v := (1 : Int32)) (by decide) ?_
      refine g_goto W0 d2_24 (pc' := 28) (by decide) ?_
      exact g_zreturn W0 (by decide) d2_28 ⟨rfl, H0⟩ (by decide) (by decide)
    · replace c2 := Classical.not_not.mp c2
      refine g_iconst W0 d2_12 (pc' := 13) rfl (v := (1 : Int32)) (by decide) ?_
      exact g_zreturn W0 (by decide) d2_13 ⟨rfl, H0⟩ (by decide) (by decide)
set_option maxRecDepth 65536 in
set_option maxHeartbeats 40000000 in
theorem law_con (l : Launch) (Z : State) (a0 : Array Value) (hw : ∀ d ∈ tables_1, d.before a0 Z = true) (n0 : Nat) (p0 p1 p2 p3 p4 p5 : Int32) (h0 : Heap) (H00 : Hp Z n0 h0 []) :
    Con l Z n0 x tables_1 code maxLocals ret room_1 #[.int p0, .int p1, .int p2, .int p3, .int p4, .int p5] h0 (fun v _ => v = some (.int 1)) := by
  refine con_of (plainFor_of_name pn_SortedRunsMergePinLaw) ?_
  intro p e s m below meth c T0 W0 e0
  have H0 : Hp Z n0 T0.heap [] := e0 ▸ H00
  refine g_cast (ef_0 m p0 p1 p2 p3 p4 p5) ?_
  refine g_iloadN W0 at_0 (pc' := 1) rfl rfl ?_
  refine g_sipush W0 at_1 (pc' := 4) rfl (v := (255 : Int32)) (by decide) ?_
  refine g_iand W0 at_4 (pc' := 5) rfl rfl ?_
  refine g_iconst W0 at_5 (pc' := 6) rfl (v := (3 : Int32)) (by decide) ?_
  refine g_irem W0 at_6 (pc' := 7) rfl (by decide) rfl ?_
  have hla : ((p0 &&& (255 : Int32)) - (p0 &&& (255 : Int32)) / (3 : Int32) * (3 : Int32)) = 0 ∨ ((p0 &&& (255 : Int32)) - (p0 &&& (255 : Int32)) / (3 : Int32) * (3 : Int32)) = 1 ∨ ((p0 &&& (255 : Int32)) - (p0 &&& (255 : Int32)) / (3 : Int32) * (3 : Int32)) = 2 := own_mod3 (own_255 _)
  generalize h_la : ((p0 &&& (255 : Int32)) - (p0 &&& (255 : Int32)) / (3 : Int32) * (3 : Int32)) = la
  rw [h_la] at hla
  refine g_istore W0 at_7 (pc' := 9) rfl (ls' := #[.val (.int p0), .val (.int p1), .val (.int p2), .val (.int p3), .val (.int p4), .val (.int p5), .val (.int la), .unset, .unset, .unset, .unset, .unset, .unset, .unset, .unset, .unset, .unset, .unset, .unset, .unset, .unset, .unset, .unset, .unset, .unset, .unset, .unset, .unset, .unset, .unset, .unset, .unset, .unset, .unset, .unset, .unset]) rfl ?_
  refine g_iloadN W0 at_9 (pc' := 10) rfl rfl ?_
  refine g_bipush W0 at_10 (pc' := 12) rfl (v := (8 : Int32)) (by decide) ?_
  refine g_iushr W0 at_12 (pc' := 13) rfl rfl ?_
  refine g_sipush W0 at_13 (pc' := 16) rfl (v := (255 : Int32)) (by decide) ?_
  refine g_iand W0 at_16 (pc' := 17) rfl rfl ?_
  refine g_iconst W0 at_17 (pc' := 18) rfl (v := (3 : Int32)) (by decide) ?_
  refine g_irem W0 at_18 (pc' := 19) rfl (by decide) rfl ?_
  have hlb : (((XT.ushr p0 (8 : Int32)) &&& (255 : Int32)) - ((XT.ushr p0 (8 : Int32)) &&& (255 : Int32)) / (3 : Int32) * (3 : Int32)) = 0 ∨ (((XT.ushr p0 (8 : Int32)) &&& (255 : Int32)) - ((XT.ushr p0 (8 : Int32)) &&& (255 : Int32)) / (3 : Int32) * (3 : Int32)) = 1 ∨ (((XT.ushr p0 (8 : Int32)) &&& (255 : Int32)) - ((XT.ushr p0 (8 : Int32)) &&& (255 : Int32)) / (3 : Int32) * (3 : Int32)) = 2 := own_mod3 (own_255 _)
  generalize h_lb : (((XT.ushr p0 (8 : Int32)) &&& (255 : Int32)) - ((XT.ushr p0 (8 : Int32)) &&& (255 : Int32)) / (3 : Int32) * (3 : Int32)) = lb
  rw [h_lb] at hlb
  refine g_istore W0 at_19 (pc' := 21) rfl (ls' := #[.val (.int p0), .val (.int p1), .val (.int p2), .val (.int p3), .val (.int p4), .val (.int p5), .val (.int la), .val (.int lb), .unset, .unset, .unset, .unset, .unset, .unset, .unset, .unset, .unset, .unset, .unset, .unset, .unset, .unset, .unset, .unset, .unset, .unset, .unset, .unset, .unset, .unset, .unset, .unset, .unset, .unset, .unset, .unset]) rfl ?_
  refine g_iloadN W0 at_21 (pc' := 22) rfl rfl ?_
  refine g_bipush W0 at_22 (pc' := 24) rfl (v := (16 : Int32)) (by decide) ?_
  refine g_iushr W0 at_24 (pc' := 25) rfl rfl ?_
  refine g_iconst W0 at_25 (pc' := 26) rfl (v := (1 : Int32)) (by decide) ?_
  refine g_iand W0 at_26 (pc' := 27) rfl rfl ?_
  obtain ⟨fa, hfa, lfa⟩ := own_bit (and1 (XT.ushr p0 (16 : Int32)))
  generalize h_af : ((XT.ushr p0 (16 : Int32)) &&& (1 : Int32)) = af
  rw [h_af] at hfa
  refine g_istore W0 at_27 (pc' := 29) rfl (ls' := #[.val (.int p0), .val (.int p1), .val (.int p2), .val (.int p3), .val (.int p4), .val (.int p5), .val (.int la), .val (.int lb), .val (.int af), .unset, .unset, .unset, .unset, .unset, .unset, .unset, .unset, .unset, .unset, .unset, .unset, .unset, .unset, .unset, .unset, .unset, .unset, .unset, .unset, .unset, .unset, .unset, .unset, .unset, .unset, .unset]) rfl ?_
  refine g_iloadN W0 at_29 (pc' := 30) rfl rfl ?_
  refine g_bipush W0 at_30 (pc' := 32) rfl (v := (17 : Int32)) (by decide) ?_
  refine g_iushr W0 at_32 (pc' := 33) rfl rfl ?_
  refine g_iconst W0 at_33 (pc' := 34) rfl (v := (1 : Int32)) (by decide) ?_
  refine g_iand W0 at_34 (pc' := 35) rfl rfl ?_
  obtain ⟨fb, hfb, lfb⟩ := own_bit (and1 (XT.ushr p0 (17 : Int32)))
  generalize h_bf : ((XT.ushr p0 (17 : Int32)) &&& (1 : Int32)) = bf
  rw [h_bf] at hfb
  refine g_istore W0 at_35 (pc' := 37) rfl (ls' := #[.val (.int p0), .val (.int p1), .val (.int p2), .val (.int p3), .val (.int p4), .val (.int p5), .val (.int la), .val (.int lb), .val (.int af), .val (.int bf), .unset, .unset, .unset, .unset, .unset, .unset, .unset, .unset, .unset, .unset, .unset, .unset, .unset, .unset, .unset, .unset, .unset, .unset, .unset, .unset, .unset, .unset, .unset, .unset, .unset, .unset]) rfl ?_
  refine g_iloadN W0 at_37 (pc' := 38) rfl rfl ?_
  refine g_bipush W0 at_38 (pc' := 40) rfl (v := (18 : Int32)) (by decide) ?_
  refine g_iushr W0 at_40 (pc' := 41) rfl rfl ?_
  refine g_iconst W0 at_41 (pc' := 42) rfl (v := (1 : Int32)) (by decide) ?_
  refine g_iand W0 at_42 (pc' := 43) rfl rfl ?_
  obtain ⟨fo, hfo, lfo⟩ := own_bit (and1 (XT.ushr p0 (18 : Int32)))
  generalize h_ofr : ((XT.ushr p0 (18 : Int32)) &&& (1 : Int32)) = ofr
  rw [h_ofr] at hfo
  refine g_istore W0 at_43 (pc' := 45) rfl (ls' := #[.val (.int p0), .val (.int p1), .val (.int p2), .val (.int p3), .val (.int p4), .val (.int p5), .val (.int la), .val (.int lb), .val (.int af), .val (.int bf), .val (.int ofr), .unset, .unset, .unset, .unset, .unset, .unset, .unset, .unset, .unset, .unset, .unset, .unset, .unset, .unset, .unset, .unset, .unset, .unset, .unset, .unset, .unset, .unset, .unset, .unset, .unset]) rfl ?_
  refine g_iloadN W0 at_45 (pc' := 46) rfl rfl ?_
  refine g_i2l W0 at_46 (pc' := 47) rfl rfl ?_
  refine g_lstore W0 at_47 (pc' := 49) rfl (ls' := #[.val (.int p0), .val (.int p1), .val (.int p2), .val (.int p3), .val (.int p4), .val (.int p5), .val (.int la), .val (.int lb), .val (.int af), .val (.int bf), .val (.int ofr), .val (.long p1.toInt64), .second, .unset, .unset, .unset, .unset, .unset, .unset, .unset, .unset, .unset, .unset, .unset, .unset, .unset, .unset, .unset, .unset, .unset, .unset, .unset, .unset, .unset, .unset, .unset]) rfl ?_
  refine g_lload W0 at_49 (pc' := 51) rfl rfl ?_
  refine g_iloadN W0 at_51 (pc' := 52) rfl rfl ?_
  refine g_iconst W0 at_52 (pc' := 53) rfl (v := (1 : Int32)) (by decide) ?_
  refine g_iushr W0 at_53 (pc' := 54) rfl rfl ?_
  refine g_i2l W0 at_54 (pc' := 55) rfl rfl ?_
  refine g_ladd W0 at_55 (pc' := 56) rfl rfl ?_
  refine g_lstore W0 at_56 (pc' := 58) rfl (ls' := #[.val (.int p0), .val (.int p1), .val (.int p2), .val (.int p3), .val (.int p4), .val (.int p5), .val (.int la), .val (.int lb), .val (.int af), .val (.int bf), .val (.int ofr), .val (.long p1.toInt64), .second, .val (.long (p1.toInt64 + (XT.ushr p2 (1 : Int32)).toInt64)), .second, .unset, .unset, .unset, .unset, .unset, .unset, .unset, .unset, .unset, .unset, .unset, .unset, .unset, .unset, .unset, .unset, .unset, .unset, .unset, .unset, .unset]) rfl ?_
  refine g_lload W0 at_58 (pc' := 60) rfl rfl ?_
  refine g_iloadN W0 at_60 (pc' := 61) rfl rfl ?_
  refine g_i2l W0 at_61 (pc' := 62) rfl rfl ?_
  refine g_ladd W0 at_62 (pc' := 63) rfl rfl ?_
  refine g_lstore W0 at_63 (pc' := 65) rfl (ls' := #[.val (.int p0), .val (.int p1), .val (.int p2), .val (.int p3), .val (.int p4), .val (.int p5), .val (.int la), .val (.int lb), .val (.int af), .val (.int bf), .val (.int ofr), .val (.long p1.toInt64), .second, .val (.long (p1.toInt64 + (XT.ushr p2 (1 : Int32)).toInt64)), .second, .val (.long (p1.toInt64 + p3.toInt64)), .second, .unset, .unset, .unset, .unset, .unset, .unset, .unset, .unset, .unset, .unset, .unset, .unset, .unset, .unset, .unset, .unset, .unset, .unset, .unset]) rfl ?_
  refine g_lload W0 at_65 (pc' := 67) rfl rfl ?_
  refine g_iload W0 at_67 (pc' := 69) rfl rfl ?_
  refine g_iconst W0 at_69 (pc' := 70) rfl (v := (1 : Int32)) (by decide) ?_
  refine g_iushr W0 at_70 (pc' := 71) rfl rfl ?_
  refine g_i2l W0 at_71 (pc' := 72) rfl rfl ?_
  refine g_ladd W0 at_72 (pc' := 73) rfl rfl ?_
  refine g_lstore W0 at_73 (pc' := 75) rfl (ls' := #[.val (.int p0), .val (.int p1), .val (.int p2), .val (.int p3), .val (.int p4), .val (.int p5), .val (.int la), .val (.int lb), .val (.int af), .val (.int bf), .val (.int ofr), .val (.long p1.toInt64), .second, .val (.long (p1.toInt64 + (XT.ushr p2 (1 : Int32)).toInt64)), .second, .val (.long (p1.toInt64 + p3.toInt64)), .second, .val (.long ((p1.toInt64 + p3.toInt64) + (XT.ushr p4 (1 : Int32)).toInt64)), .second, .unset, .unset, .unset, .unset, .unset, .unset, .unset, .unset, .unset, .unset, .unset, .unset, .unset, .unset, .unset, .unset, .unset]) rfl ?_
  refine g_lload W0 at_75 (pc' := 77) rfl rfl ?_
  refine g_l2d W0 at_77 (pc' := 78) rfl rfl ?_
  refine g_dstore W0 at_78 (pc' := 80) rfl (ls' := #[.val (.int p0), .val (.int p1), .val (.int p2), .val (.int p3), .val (.int p4), .val (.int p5), .val (.int la), .val (.int lb), .val (.int af), .val (.int bf), .val (.int ofr), .val (.long p1.toInt64), .second, .val (.long (p1.toInt64 + (XT.ushr p2 (1 : Int32)).toInt64)), .second, .val (.long (p1.toInt64 + p3.toInt64)), .second, .val (.long ((p1.toInt64 + p3.toInt64) + (XT.ushr p4 (1 : Int32)).toInt64)), .second, .val (.double (FP.l2d p1.toInt64)), .second, .unset, .unset, .unset, .unset, .unset, .unset, .unset, .unset, .unset, .unset, .unset, .unset, .unset, .unset, .unset]) rfl ?_
  refine g_lload W0 at_80 (pc' := 82) rfl rfl ?_
  refine g_l2d W0 at_82 (pc' := 83) rfl rfl ?_
  refine g_dstore W0 at_83 (pc' := 85) rfl (ls' := #[.val (.int p0), .val (.int p1), .val (.int p2), .val (.int p3), .val (.int p4), .val (.int p5), .val (.int la), .val (.int lb), .val (.int af), .val (.int bf), .val (.int ofr), .val (.long p1.toInt64), .second, .val (.long (p1.toInt64 + (XT.ushr p2 (1 : Int32)).toInt64)), .second, .val (.long (p1.toInt64 + p3.toInt64)), .second, .val (.long ((p1.toInt64 + p3.toInt64) + (XT.ushr p4 (1 : Int32)).toInt64)), .second, .val (.double (FP.l2d p1.toInt64)), .second, .val (.double (FP.l2d (p1.toInt64 + (XT.ushr p2 (1 : Int32)).toInt64))), .second, .unset, .unset, .unset, .unset, .unset, .unset, .unset, .unset, .unset, .unset, .unset, .unset, .unset]) rfl ?_
  refine g_lload W0 at_85 (pc' := 87) rfl rfl ?_
  refine g_l2d W0 at_87 (pc' := 88) rfl rfl ?_
  refine g_dstore W0 at_88 (pc' := 90) rfl (ls' := #[.val (.int p0), .val (.int p1), .val (.int p2), .val (.int p3), .val (.int p4), .val (.int p5), .val (.int la), .val (.int lb), .val (.int af), .val (.int bf), .val (.int ofr), .val (.long p1.toInt64), .second, .val (.long (p1.toInt64 + (XT.ushr p2 (1 : Int32)).toInt64)), .second, .val (.long (p1.toInt64 + p3.toInt64)), .second, .val (.long ((p1.toInt64 + p3.toInt64) + (XT.ushr p4 (1 : Int32)).toInt64)), .second, .val (.double (FP.l2d p1.toInt64)), .second, .val (.double (FP.l2d (p1.toInt64 + (XT.ushr p2 (1 : Int32)).toInt64))), .second, .val (.double (FP.l2d (p1.toInt64 + p3.toInt64))), .second, .unset, .unset, .unset, .unset, .unset, .unset, .unset, .unset, .unset, .unset, .unset]) rfl ?_
  refine g_lload W0 at_90 (pc' := 92) rfl rfl ?_
  refine g_l2d W0 at_92 (pc' := 93) rfl rfl ?_
  refine g_dstore W0 at_93 (pc' := 95) rfl (ls' := #[.val (.int p0), .val (.int p1), .val (.int p2), .val (.int p3), .val (.int p4), .val (.int p5), .val (.int la), .val (.int lb), .val (.int af), .val (.int bf), .val (.int ofr), .val (.long p1.toInt64), .second, .val (.long (p1.toInt64 + (XT.ushr p2 (1 : Int32)).toInt64)), .second, .val (.long (p1.toInt64 + p3.toInt64)), .second, .val (.long ((p1.toInt64 + p3.toInt64) + (XT.ushr p4 (1 : Int32)).toInt64)), .second, .val (.double (FP.l2d p1.toInt64)), .second, .val (.double (FP.l2d (p1.toInt64 + (XT.ushr p2 (1 : Int32)).toInt64))), .second, .val (.double (FP.l2d (p1.toInt64 + p3.toInt64))), .second, .val (.double (FP.l2d ((p1.toInt64 + p3.toInt64) + (XT.ushr p4 (1 : Int32)).toInt64))), .second, .unset, .unset, .unset, .unset, .unset, .unset, .unset, .unset, .unset]) rfl ?_
  refine g_iload W0 at_95 (pc' := 97) rfl rfl ?_
  refine g_i2d W0 at_97 (pc' := 98) rfl rfl ?_
  refine g_dstore W0 at_98 (pc' := 100) rfl (ls' := #[.val (.int p0), .val (.int p1), .val (.int p2), .val (.int p3), .val (.int p4), .val (.int p5), .val (.int la), .val (.int lb), .val (.int af), .val (.int bf), .val (.int ofr), .val (.long p1.toInt64), .second, .val (.long (p1.toInt64 + (XT.ushr p2 (1 : Int32)).toInt64)), .second, .val (.long (p1.toInt64 + p3.toInt64)), .second, .val (.long ((p1.toInt64 + p3.toInt64) + (XT.ushr p4 (1 : Int32)).toInt64)), .second, .val (.double (FP.l2d p1.toInt64)), .second, .val (.double (FP.l2d (p1.toInt64 + (XT.ushr p2 (1 : Int32)).toInt64))), .second, .val (.double (FP.l2d (p1.toInt64 + p3.toInt64))), .second, .val (.double (FP.l2d ((p1.toInt64 + p3.toInt64) + (XT.ushr p4 (1 : Int32)).toInt64))), .second, .val (.double (FP.i2d p5)), .second, .unset, .unset, .unset, .unset, .unset, .unset, .unset]) rfl ?_
  refine g_iload W0 at_100 (pc' := 102) rfl rfl ?_
  refine g_i2l W0 at_102 (pc' := 103) rfl rfl ?_
  refine g_lconst W0 at_103 (pc' := 104) rfl (v := (1 : Int64)) (by decide) ?_
  refine g_ladd W0 at_104 (pc' := 105) rfl rfl ?_
  refine g_l2d W0 at_105 (pc' := 106) rfl rfl ?_
  refine g_dstore W0 at_106 (pc' := 108) rfl (ls' := #[.val (.int p0), .val (.int p1), .val (.int p2), .val (.int p3), .val (.int p4), .val (.int p5), .val (.int la), .val (.int lb), .val (.int af), .val (.int bf), .val (.int ofr), .val (.long p1.toInt64), .second, .val (.long (p1.toInt64 + (XT.ushr p2 (1 : Int32)).toInt64)), .second, .val (.long (p1.toInt64 + p3.toInt64)), .second, .val (.long ((p1.toInt64 + p3.toInt64) + (XT.ushr p4 (1 : Int32)).toInt64)), .second, .val (.double (FP.l2d p1.toInt64)), .second, .val (.double (FP.l2d (p1.toInt64 + (XT.ushr p2 (1 : Int32)).toInt64))), .second, .val (.double (FP.l2d (p1.toInt64 + p3.toInt64))), .second, .val (.double (FP.l2d ((p1.toInt64 + p3.toInt64) + (XT.ushr p4 (1 : Int32)).toInt64))), .second, .val (.double (FP.i2d p5)), .second, .val (.double (FP.l2d (p5.toInt64 + (1 : Int64)))), .second, .unset, .unset, .unset, .unset, .unset]) rfl ?_
  obtain ⟨A0, A1, B0, B1, d0, d1, f0, f1, hA, hB⟩ := own_vals p1 p2 p3 p4
  have hse : NoNaN64 (FP.i2d p5) := (i2d_fin p5).noNaN
  generalize h_x1 : (FP.l2d (p1.toInt64 + (XT.ushr p2 (1 : Int32)).toInt64)) = x1
  rw [h_x1] at d1
  generalize h_y1 : (FP.l2d ((p1.toInt64 + p3.toInt64) + (XT.ushr p4 (1 : Int32)).toInt64)) = y1
  rw [h_y1] at f1
  generalize h_y0 : (FP.l2d (p1.toInt64 + p3.toInt64)) = y0
  rw [h_y0] at f0
  generalize h_x0 : (FP.l2d p1.toInt64) = x0
  rw [h_x0] at d0
  generalize h_se : (FP.i2d p5) = se
  rw [h_se] at hse
  generalize h_jk : (FP.l2d (p5.toInt64 + (1 : Int64))) = jk
  refine g_iconst W0 at_108 (pc' := 109) rfl (v := (3 : Int32)) (by decide) ?_
  refine g_newarr (aty := .double) W0 (wd_0 hw) H0 (by decide) (vs := [.double 0, .double 0, .double 0]) rfl (cap := 3) (Nat.le_of_eq rfl) (by decide) at_109 (pc' := 111) rfl (kc' := 1) (ks' := 3) rfl rfl (by decide) (by decide) ?_
  intro T1 a1 W1 H1
  replace H1 : Hp Z n0 T1.heap [(a1, ArC Z .double [.double 0, .double 0, .double 0])] := H1
  refine g_dup W1 at_111 (pc' := 112) rfl rfl ?_
  refine g_iconst W1 at_112 (pc' := 113) rfl (v := (0 : Int32)) (by decide) ?_
  refine g_dload W1 at_113 (pc' := 115) rfl rfl ?_
  refine g_dastore W1 H1 (i := 0) rfl (jx := 0) (by decide) (by exact (by decide : 0 < 3)) at_115 (pc' := 116) rfl (L' := [(a1, ArC Z .double [.double jk, .double 0, .double 0])]) rfl ?_
  intro T2 W2 H2
  refine g_dup W2 at_116 (pc' := 117) rfl rfl ?_
  refine g_iconst W2 at_117 (pc' := 118) rfl (v := (1 : Int32)) (by decide) ?_
  refine g_dload W2 at_118 (pc' := 120) rfl rfl ?_
  refine g_dastore W2 H2 (i := 0) rfl (jx := 1) (by decide) (by exact (by decide : 1 < 3)) at_120 (pc' := 121) rfl (L' := [(a1, ArC Z .double [.double jk, .double jk, .double 0])]) rfl ?_
  intro T3 W3 H3
  refine g_dup W3 at_121 (pc' := 122) rfl rfl ?_
  refine g_iconst W3 at_122 (pc' := 123) rfl (v := (2 : Int32)) (by decide) ?_
  refine g_dload W3 at_123 (pc' := 125) rfl rfl ?_
  refine g_dastore W3 H3 (i := 0) rfl (jx := 2) (by decide) (by exact (by decide : 2 < 3)) at_125 (pc' := 126) rfl (L' := [(a1, ArC Z .double [.double jk, .double jk, .double jk])]) rfl ?_
  intro T4 W4 H4
  refine g_astore W4 at_126 (pc' := 128) rfl rfl (ls' := #[.val (.int p0), .val (.int p1), .val (.int p2), .val (.int p3), .val (.int p4), .val (.int p5), .val (.int la), .val (.int lb), .val (.int af), .val (.int bf), .val (.int ofr), .val (.long p1.toInt64), .second, .val (.long (p1.toInt64 + (XT.ushr p2 (1 : Int32)).toInt64)), .second, .val (.long (p1.toInt64 + p3.toInt64)), .second, .val (.long ((p1.toInt64 + p3.toInt64) + (XT.ushr p4 (1 : Int32)).toInt64)), .second, .val (.double x0), .second, .val (.double x1), .second, .val (.double y0), .second, .val (.double y1), .second, .val (.double se), .second, .val (.double jk), .second, .val (.ref a1), .unset, .unset, .unset, .unset]) rfl ?_
  refine g_iconst W4 at_128 (pc' := 129) rfl (v := (3 : Int32)) (by decide) ?_
  refine g_newarr (aty := .double) W4 (wd_0 hw) H4 (by decide) (vs := [.double 0, .double 0, .double 0]) rfl (cap := 3) (Nat.le_of_eq rfl) (by decide) at_129 (pc' := 131) rfl (kc' := 2) (ks' := 6) rfl rfl (by decide) (by decide) ?_
  intro T5 a5 W5 H5
  replace H5 : Hp Z n0 T5.heap [(a5, ArC Z .double [.double 0, .double 0, .double 0]), (a1, ArC Z .double [.double jk, .double jk, .double jk])] := H5
  refine g_dup W5 at_131 (pc' := 132) rfl rfl ?_
  refine g_iconst W5 at_132 (pc' := 133) rfl (v := (0 : Int32)) (by decide) ?_
  refine g_dload W5 at_133 (pc' := 135) rfl rfl ?_
  refine g_dastore W5 H5 (i := 0) rfl (jx := 0) (by decide) (by exact (by decide : 0 < 3)) at_135 (pc' := 136) rfl (L' := [(a5, ArC Z .double [.double jk, .double 0, .double 0]), (a1, ArC Z .double [.double jk, .double jk, .double jk])]) rfl ?_
  intro T6 W6 H6
  refine g_dup W6 at_136 (pc' := 137) rfl rfl ?_
  refine g_iconst W6 at_137 (pc' := 138) rfl (v := (1 : Int32)) (by decide) ?_
  refine g_dload W6 at_138 (pc' := 140) rfl rfl ?_
  refine g_dastore W6 H6 (i := 0) rfl (jx := 1) (by decide) (by exact (by decide : 1 < 3)) at_140 (pc' := 141) rfl (L' := [(a5, ArC Z .double [.double jk, .double jk, .double 0]), (a1, ArC Z .double [.double jk, .double jk, .double jk])]) rfl ?_
  intro T7 W7 H7
  refine g_dup W7 at_141 (pc' := 142) rfl rfl ?_
  refine g_iconst W7 at_142 (pc' := 143) rfl (v := (2 : Int32)) (by decide) ?_
  refine g_dload W7 at_143 (pc' := 145) rfl rfl ?_
  refine g_dastore W7 H7 (i := 0) rfl (jx := 2) (by decide) (by exact (by decide : 2 < 3)) at_145 (pc' := 146) rfl (L' := [(a5, ArC Z .double [.double jk, .double jk, .double jk]), (a1, ArC Z .double [.double jk, .double jk, .double jk])]) rfl ?_
  intro T8 W8 H8
  refine g_astore W8 at_146 (pc' := 148) rfl rfl (ls' := #[.val (.int p0), .val (.int p1), .val (.int p2), .val (.int p3), .val (.int p4), .val (.int p5), .val (.int la), .val (.int lb), .val (.int af), .val (.int bf), .val (.int ofr), .val (.long p1.toInt64), .second, .val (.long (p1.toInt64 + (XT.ushr p2 (1 : Int32)).toInt64)), .second, .val (.long (p1.toInt64 + p3.toInt64)), .second, .val (.long ((p1.toInt64 + p3.toInt64) + (XT.ushr p4 (1 : Int32)).toInt64)), .second, .val (.double x0), .second, .val (.double x1), .second, .val (.double y0), .second, .val (.double y1), .second, .val (.double se), .second, .val (.double jk), .second, .val (.ref a1), .val (.ref a5), .unset, .unset, .unset]) rfl ?_
  refine g_iconst W8 at_148 (pc' := 149) rfl (v := (5 : Int32)) (by decide) ?_
  refine g_newarr (aty := .double) W8 (wd_0 hw) H8 (by decide) (vs := [.double 0, .double 0, .double 0, .double 0, .double 0]) rfl (cap := 5) (Nat.le_of_eq rfl) (by decide) at_149 (pc' := 151) rfl (kc' := 3) (ks' := 11) rfl rfl (by decide) (by decide) ?_
  intro T9 a9 W9 H9
  replace H9 : Hp Z n0 T9.heap [(a9, ArC Z .double [.double 0, .double 0, .double 0, .double 0, .double 0]), (a5, ArC Z .double [.double jk, .double jk, .double jk]), (a1, ArC Z .double [.double jk, .double jk, .double jk])] := H9
  refine g_dup W9 at_151 (pc' := 152) rfl rfl ?_
  refine g_iconst W9 at_152 (pc' := 153) rfl (v := (0 : Int32)) (by decide) ?_
  refine g_dload W9 at_153 (pc' := 155) rfl rfl ?_
  refine g_dastore W9 H9 (i := 0) rfl (jx := 0) (by decide) (by exact (by decide : 0 < 5)) at_155 (pc' := 156) rfl (L' := [(a9, ArC Z .double [.double se, .double 0, .double 0, .double 0, .double 0]), (a5, ArC Z .double [.double jk, .double jk, .double jk]), (a1, ArC Z .double [.double jk, .double jk, .double jk])]) rfl ?_
  intro T10 W10 H10
  refine g_dup W10 at_156 (pc' := 157) rfl rfl ?_
  refine g_iconst W10 at_157 (pc' := 158) rfl (v := (1 : Int32)) (by decide) ?_
  refine g_dload W10 at_158 (pc' := 160) rfl rfl ?_
  refine g_dastore W10 H10 (i := 0) rfl (jx := 1) (by decide) (by exact (by decide : 1 < 5)) at_160 (pc' := 161) rfl (L' := [(a9, ArC Z .double [.double se, .double se, .double 0, .double 0, .double 0]), (a5, ArC Z .double [.double jk, .double jk, .double jk]), (a1, ArC Z .double [.double jk, .double jk, .double jk])]) rfl ?_
  intro T11 W11 H11
  refine g_dup W11 at_161 (pc' := 162) rfl rfl ?_
  refine g_iconst W11 at_162 (pc' := 163) rfl (v := (2 : Int32)) (by decide) ?_
  refine g_dload W11 at_163 (pc' := 165) rfl rfl ?_
  refine g_dastore W11 H11 (i := 0) rfl (jx := 2) (by decide) (by exact (by decide : 2 < 5)) at_165 (pc' := 166) rfl (L' := [(a9, ArC Z .double [.double se, .double se, .double se, .double 0, .double 0]), (a5, ArC Z .double [.double jk, .double jk, .double jk]), (a1, ArC Z .double [.double jk, .double jk, .double jk])]) rfl ?_
  intro T12 W12 H12
  refine g_dup W12 at_166 (pc' := 167) rfl rfl ?_
  refine g_iconst W12 at_167 (pc' := 168) rfl (v := (3 : Int32)) (by decide) ?_
  refine g_dload W12 at_168 (pc' := 170) rfl rfl ?_
  refine g_dastore W12 H12 (i := 0) rfl (jx := 3) (by decide) (by exact (by decide : 3 < 5)) at_170 (pc' := 171) rfl (L' := [(a9, ArC Z .double [.double se, .double se, .double se, .double se, .double 0]), (a5, ArC Z .double [.double jk, .double jk, .double jk]), (a1, ArC Z .double [.double jk, .double jk, .double jk])]) rfl ?_
  intro T13 W13 H13
  refine g_dup W13 at_171 (pc' := 172) rfl rfl ?_
  refine g_iconst W13 at_172 (pc' := 173) rfl (v := (4 : Int32)) (by decide) ?_
  refine g_dload W13 at_173 (pc' := 175) rfl rfl ?_
  refine g_dastore W13 H13 (i := 0) rfl (jx := 4) (by decide) (by exact (by decide : 4 < 5)) at_175 (pc' := 176) rfl (L' := [(a9, ArC Z .double [.double se, .double se, .double se, .double se, .double se]), (a5, ArC Z .double [.double jk, .double jk, .double jk]), (a1, ArC Z .double [.double jk, .double jk, .double jk])]) rfl ?_
  intro T14 W14 H14
  refine g_astore W14 at_176 (pc' := 178) rfl rfl (ls' := #[.val (.int p0), .val (.int p1), .val (.int p2), .val (.int p3), .val (.int p4), .val (.int p5), .val (.int la), .val (.int lb), .val (.int af), .val (.int bf), .val (.int ofr), .val (.long p1.toInt64), .second, .val (.long (p1.toInt64 + (XT.ushr p2 (1 : Int32)).toInt64)), .second, .val (.long (p1.toInt64 + p3.toInt64)), .second, .val (.long ((p1.toInt64 + p3.toInt64) + (XT.ushr p4 (1 : Int32)).toInt64)), .second, .val (.double x0), .second, .val (.double x1), .second, .val (.double y0), .second, .val (.double y1), .second, .val (.double se), .second, .val (.double jk), .second, .val (.ref a1), .val (.ref a5), .val (.ref a9), .unset, .unset]) rfl ?_
  refine g_iload W14 at_178 (pc' := 180) rfl rfl ?_
  refine g_iconst W14 at_180 (pc' := 181) rfl (v := (1 : Int32)) (by decide) ?_
  have J1 : ∀ (TJJ1 : State) (la : Int32) (avs : List Value) (xs : List UInt64) (hL : la.toInt = (xs.length : Int)) (hxs : ∀ t z, xs[t]? = some z → avs[fa + t]? = some (.double z)) (hX : xs = [] ∨ xs = [x0] ∨ xs = [x0, x1]), Wk Z x code maxLocals ret n0 p l e room_1 s m #[.int p0, .int p1, .int p2, .int p3, .int p4, .int p5] below meth c TJJ1 3 11 → Hp Z n0 TJJ1.heap [(a9, ArC Z .double [.double se, .double se, .double se, .double se, .double se]), (a5, ArC Z .double [.double jk, .double jk, .double jk]), (a1, ArC Z .double avs)] → Goes p e below (En s n0 (Room.cells room_1) (Room.slots room_1) (fun v _ => v = some (.int 1))) (TJJ1.setTop (mkF m 206 #[.val (.int p0), .val (.int p1), .val (.int p2), .val (.int p3), .val (.int p4), .val (.int p5), .val (.int la), .val (.int lb), .val (.int af), .val (.int bf), .val (.int ofr), .val (.long p1.toInt64), .second, .val (.long (p1.toInt64 + (XT.ushr p2 (1 : Int32)).toInt64)), .second, .val (.long (p1.toInt64 + p3.toInt64)), .second, .val (.long ((p1.toInt64 + p3.toInt64) + (XT.ushr p4 (1 : Int32)).toInt64)), .second, .val (.double x0), .second, .val (.double x1), .second, .val (.double y0), .second, .val (.double y1), .second, .val (.double se), .second, .val (.double jk), .second, .val (.ref a1), .val (.ref a5), .val (.ref a9), .unset, .unset] [])) := by
    intro TJJ1 la avs xs hL hxs hX WJJ1 HJJ1
    have J2 : ∀ (TJJ2 : State) (lb : Int32) (bvs : List Value) (ys : List UInt64) (hM : lb.toInt = (ys.length : Int)) (hys : ∀ t z, ys[t]? = some z → bvs[fb + t]? = some (.double z)) (hY : ys = [] ∨ ys = [y0] ∨ ys = [y0, y1]), Wk Z x code maxLocals ret n0 p l e room_1 s m #[.int p0, .int p1, .int p2, .int p3, .int p4, .int p5] below meth c TJJ2 3 11 → Hp Z n0 TJJ2.heap [(a9, ArC Z .double [.double se, .double se, .double se, .double se, .double se]), (a5, ArC Z .double bvs), (a1, ArC Z .double avs)] → Goes p e below (En s n0 (Room.cells room_1) (Room.slots room_1) (fun v _ => v = some (.int 1))) (TJJ2.setTop (mkF m 234 #[.val (.int p0), .val (.int p1), .val (.int p2), .val (.int p3), .val (.int p4), .val (.int p5), .val (.int la), .val (.int lb), .val (.int af), .val (.int bf), .val (.int ofr), .val (.long p1.toInt64), .second, .val (.long (p1.toInt64 + (XT.ushr p2 (1 : Int32)).toInt64)), .second, .val (.long (p1.toInt64 + p3.toInt64)), .second, .val (.long ((p1.toInt64 + p3.toInt64) + (XT.ushr p4 (1 : Int32)).toInt64)), .second, .val (.double x0), .second, .val (.double x1), .second, .val (.double y0), .second, .val (.double y1), .second, .val (.double se), .second, .val (.double jk), .second, .val (.ref a1), .val (.ref a5), .val (.ref a9), .unset, .unset] [])) := by
      intro TJJ2 lb bvs ys hM hys hY WJJ2 HJJ2
      have lX := own_len hX
      have lY := own_len hY
      refine g_aload WJJ2 at_234 (pc' := 236) rfl rfl rfl ?_
      refine g_iload WJJ2 at_236 (pc' := 238) rfl rfl ?_
      refine g_iload WJJ2 at_238 (pc' := 240) rfl rfl ?_
      refine g_iload WJJ2 at_240 (pc' := 242) rfl rfl ?_
      refine g_iadd WJJ2 at_242 (pc' := 243) rfl rfl ?_
      refine g_aload WJJ2 at_243 (pc' := 245) rfl rfl rfl ?_
      refine g_iload WJJ2 at_245 (pc' := 247) rfl rfl ?_
      refine g_iload WJJ2 at_247 (pc' := 249) rfl rfl ?_
      refine g_iload WJJ2 at_249 (pc' := 251) rfl rfl ?_
      refine g_iadd WJJ2 at_251 (pc' := 252) rfl rfl ?_
      refine g_aload WJJ2 at_252 (pc' := 254) rfl rfl rfl ?_
      refine g_iload WJJ2 at_254 (pc' := 256) rfl rfl ?_
      have H15f : Hp Z n0 TJJ2.heap [(a5, ArC Z .double bvs), (a9, ArC Z .double [.double se, .double se, .double se, .double se, .double se]), (a1, ArC Z .double avs)] := HJJ2.front (i := 1) rfl rfl
      have H16f : Hp Z n0 TJJ2.heap [(a1, ArC Z .double avs), (a5, ArC Z .double bvs), (a9, ArC Z .double [.double se, .double se, .double se, .double se, .double se])] := H15f.front (i := 2) rfl rfl
      refine g_callS WJJ2 (argsL := [.ref a1, .int af, .int (af + la), .ref a5, .int bf, .int (bf + lb), .ref a9, .int ofr]) (st := []) (wd_1 hw) (wd_2 hw) (wd_3 hw) (wd_4 hw) (by decide) (c_merge l Z a0 hw n0 a1 a5 a9 avs bvs af (af + la) bf (bf + lb) ofr (xs.length + ys.length) xs ys fa fb fo [.double se, .double se, .double se, .double se, .double se] rfl hfa hfb hfo (by rw [own_add hfa hL (by omega)]; omega) (by rw [own_add hfb hM (by omega)]; omega) (own_en hfo hfa hfb hL hM (by omega)) hxs hys (show fo + (xs.length + ys.length) ≤ 5 by omega) _ _ H16f) pd_0 rfl rfl rfl at_256 (pc' := 259) rfl (by decide) (Wn := 0) (Nat.le_of_eq rfl) (by decide) (kc' := 3) (ks' := 11) rfl rfl (by decide) (by decide) ?_
      intro T17 v17 W17 hp17
      obtain ⟨rfl, H17⟩ := hp17
      replace H17 : Hp Z n0 T17.heap [(a1, ArC Z .double avs), (a5, ArC Z .double bvs), (a9, ArC Z .double (own_put [.double se, .double se, .double se, .double se, .double se] fo (own_mg (xs.length + ys.length) xs ys)))] := H17
      show Goes p e below _ (T17.setTop (mkF m 259 #[.val (.int p0), .val (.int p1), .val (.int p2), .val (.int p3), .val (.int p4), .val (.int p5), .val (.int la), .val (.int lb), .val (.int af), .val (.int bf), .val (.int ofr), .val (.long p1.toInt64), .second, .val (.long (p1.toInt64 + (XT.ushr p2 (1 : Int32)).toInt64)), .second, .val (.long (p1.toInt64 + p3.toInt64)), .second, .val (.long ((p1.toInt64 + p3.toInt64) + (XT.ushr p4 (1 : Int32)).toInt64)), .second, .val (.double x0), .second, .val (.double x1), .second, .val (.double y0), .second, .val (.double y1), .second, .val (.double se), .second, .val (.double jk), .second, .val (.ref a1), .val (.ref a5), .val (.ref a9), .unset, .unset] []))
      have hml : (own_mg (xs.length + ys.length) xs ys).length = xs.length + ys.length := own_mg_len _ _ _ rfl
      have hin : ∀ i z, (own_mg (xs.length + ys.length) xs ys)[i]? = some z → (own_put [.double se, .double se, .double se, .double se, .double se] fo (own_mg (xs.length + ys.length) xs ys))[fo + i]? = some (.double z) := fun i z q => own_put_in _ _ _ _ _ (by rw [hml]; show fo + (xs.length + ys.length) ≤ 5; omega) q
      have hout : ∀ i, i < 5 → (i < fo ∨ fo + (xs.length + ys.length) ≤ i) → (own_put [.double se, .double se, .double se, .double se, .double se] fo (own_mg (xs.length + ys.length) xs ys))[i]? = some (.double se) := fun i h5 q => by rw [own_put_out _ _ _ _ (by rw [hml]; exact q)]; exact own_rep (n := 5) h5
      have H18f : Hp Z n0 T17.heap [(a9, ArC Z .double (own_put [.double se, .double se, .double se, .double se, .double se] fo (own_mg (xs.length + ys.length) xs ys))), (a1, ArC Z .double avs), (a5, ArC Z .double bvs)] := H17.front (i := 2) rfl rfl
      refine g_iload W17 at_259 (pc' := 261) rfl rfl ?_
      refine g_iload W17 at_261 (pc' := 263) rfl rfl ?_
      refine g_iadd W17 at_263 (pc' := 264) rfl rfl ?_
      refine g_istore W17 at_264 (pc' := 266) rfl (ls' := #[.val (.int p0), .val (.int p1), .val (.int p2), .val (.int p3), .val (.int p4), .val (.int p5), .val (.int la), .val (.int lb), .val (.int af), .val (.int bf), .val (.int ofr), .val (.long p1.toInt64), .second, .val (.long (p1.toInt64 + (XT.ushr p2 (1 : Int32)).toInt64)), .second, .val (.long (p1.toInt64 + p3.toInt64)), .second, .val (.long ((p1.toInt64 + p3.toInt64) + (XT.ushr p4 (1 : Int32)).toInt64)), .second, .val (.double x0), .second, .val (.double x1), .second, .val (.double y0), .second, .val (.double y1), .second, .val (.double se), .second, .val (.double jk), .second, .val (.ref a1), .val (.ref a5), .val (.ref a9), .val (.int (la + lb)), .unset]) rfl ?_
      refine g_iconst W17 at_266 (pc' := 267) rfl (v := (1 : Int32)) (by decide) ?_
      refine g_istore W17 at_267 (pc' := 269) rfl (ls' := #[.val (.int p0), .val (.int p1), .val (.int p2), .val (.int p3), .val (.int p4), .val (.int p5), .val (.int la), .val (.int lb), .val (.int af), .val (.int bf), .val (.int ofr), .val (.long p1.toInt64), .second, .val (.long (p1.toInt64 + (XT.ushr p2 (1 : Int32)).toInt64)), .second, .val (.long (p1.toInt64 + p3.toInt64)), .second, .val (.long ((p1.toInt64 + p3.toInt64) + (XT.ushr p4 (1 : Int32)).toInt64)), .second, .val (.double x0), .second, .val (.double x1), .second, .val (.double y0), .second, .val (.double y1), .second, .val (.double se), .second, .val (.double jk), .second, .val (.ref a1), .val (.ref a5), .val (.ref a9), .val (.int (la + lb)), .val (.int (1 : Int32))]) rfl ?_
      refine g_iload W17 at_269 (pc' := 271) rfl rfl ?_
      refine g_iconst W17 at_271 (pc' := 272) rfl (v := (1 : Int32)) (by decide) ?_
      have E0 : ∀ (TJE0 : State) (_ : True), Wk Z x code maxLocals ret n0 p l e room_1 s m #[.int p0, .int p1, .int p2, .int p3, .int p4, .int p5] below meth c TJE0 3 11 → Hp Z n0 TJE0.heap [(a9, ArC Z .double (own_put [.double se, .double se, .double se, .double se, .double se] fo (own_mg (xs.length + ys.length) xs ys))), (a1, ArC Z .double avs), (a5, ArC Z .double bvs)] → Goes p e below (En s n0 (Room.cells room_1) (Room.slots room_1) (fun v _ => v = some (.int 1))) (TJE0.setTop (mkF m 310 #[.val (.int p0), .val (.int p1), .val (.int p2), .val (.int p3), .val (.int p4), .val (.int p5), .val (.int la), .val (.int lb), .val (.int af), .val (.int bf), .val (.int ofr), .val (.long p1.toInt64), .second, .val (.long (p1.toInt64 + (XT.ushr p2 (1 : Int32)).toInt64)), .second, .val (.long (p1.toInt64 + p3.toInt64)), .second, .val (.long ((p1.toInt64 + p3.toInt64) + (XT.ushr p4 (1 : Int32)).toInt64)), .second, .val (.double x0), .second, .val (.double x1), .second, .val (.double y0), .second, .val (.double y1), .second, .val (.double se), .second, .val (.double jk), .second, .val (.ref a1), .val (.ref a5), .val (.ref a9), .val (.int (la + lb)), .val (.int (1 : Int32))] [])) := by
        intro TJE0 _ WJE0 HJE0
        refine g_iload WJE0 at_310 (pc' := 312) rfl rfl ?_
        refine g_iconst WJE0 at_312 (pc' := 313) rfl (v := (2 : Int32)) (by decide) ?_
        have E1 : ∀ (TJE1 : State) (_ : True), Wk Z x code maxLocals ret n0 p l e room_1 s m #[.int p0, .int p1, .int p2, .int p3, .int p4, .int p5] below meth c TJE1 3 11 → Hp Z n0 TJE1.heap [(a9, ArC Z .double (own_put [.double se, .double se, .double se, .double se, .double se] fo (own_mg (xs.length + ys.length) xs ys))), (a1, ArC Z .double avs), (a5, ArC Z .double bvs)] → Goes p e below (En s n0 (Room.cells room_1) (Room.slots room_1) (fun v _ => v = some (.int 1))) (TJE1.setTop (mkF m 353 #[.val (.int p0), .val (.int p1), .val (.int p2), .val (.int p3), .val (.int p4), .val (.int p5), .val (.int la), .val (.int lb), .val (.int af), .val (.int bf), .val (.int ofr), .val (.long p1.toInt64), .second, .val (.long (p1.toInt64 + (XT.ushr p2 (1 : Int32)).toInt64)), .second, .val (.long (p1.toInt64 + p3.toInt64)), .second, .val (.long ((p1.toInt64 + p3.toInt64) + (XT.ushr p4 (1 : Int32)).toInt64)), .second, .val (.double x0), .second, .val (.double x1), .second, .val (.double y0), .second, .val (.double y1), .second, .val (.double se), .second, .val (.double jk), .second, .val (.ref a1), .val (.ref a5), .val (.ref a9), .val (.int (la + lb)), .val (.int (1 : Int32))] [])) := by
          intro TJE1 _ WJE1 HJE1
          refine g_iload WJE1 at_353 (pc' := 355) rfl rfl ?_
          refine g_iconst WJE1 at_355 (pc' := 356) rfl (v := (1 : Int32)) (by decide) ?_
          have E2 : ∀ (TJE2 : State) (_ : True), Wk Z x code maxLocals ret n0 p l e room_1 s m #[.int p0, .int p1, .int p2, .int p3, .int p4, .int p5] below meth c TJE2 3 11 → Hp Z n0 TJE2.heap [(a9, ArC Z .double (own_put [.double se, .double se, .double se, .double se, .double se] fo (own_mg (xs.length + ys.length) xs ys))), (a1, ArC Z .double avs), (a5, ArC Z .double bvs)] → Goes p e below (En s n0 (Room.cells room_1) (Room.slots room_1) (fun v _ => v = some (.int 1))) (TJE2.setTop (mkF m 394 #[.val (.int p0), .val (.int p1), .val (.int p2), .val (.int p3), .val (.int p4), .val (.int p5), .val (.int la), .val (.int lb), .val (.int af), .val (.int bf), .val (.int ofr), .val (.long p1.toInt64), .second, .val (.long (p1.toInt64 + (XT.ushr p2 (1 : Int32)).toInt64)), .second, .val (.long (p1.toInt64 + p3.toInt64)), .second, .val (.long ((p1.toInt64 + p3.toInt64) + (XT.ushr p4 (1 : Int32)).toInt64)), .second, .val (.double x0), .second, .val (.double x1), .second, .val (.double y0), .second, .val (.double y1), .second, .val (.double se), .second, .val (.double jk), .second, .val (.ref a1), .val (.ref a5), .val (.ref a9), .val (.int (la + lb)), .val (.int (1 : Int32))] [])) := by
            intro TJE2 _ WJE2 HJE2
            refine g_iload WJE2 at_394 (pc' := 396) rfl rfl ?_
            refine g_iconst WJE2 at_396 (pc' := 397) rfl (v := (2 : Int32)) (by decide) ?_
            have E3 : ∀ (TJE3 : State) (_ : True), Wk Z x code maxLocals ret n0 p l e room_1 s m #[.int p0, .int p1, .int p2, .int p3, .int p4, .int p5] below meth c TJE3 3 11 → Hp Z n0 TJE3.heap [(a9, ArC Z .double (own_put [.double se, .double se, .double se, .double se, .double se] fo (own_mg (xs.length + ys.length) xs ys))), (a1, ArC Z .double avs), (a5, ArC Z .double bvs)] → Goes p e below (En s n0 (Room.cells room_1) (Room.slots room_1) (fun v _ => v = some (.int 1))) (TJE3.setTop (mkF m 437 #[.val (.int p0), .val (.int p1), .val (.int p2), .val (.int p3), .val (.int p4), .val (.int p5), .val (.int la), .val (.int lb), .val (.int af), .val (.int bf), .val (.int ofr), .val (.long p1.toInt64), .second, .val (.long (p1.toInt64 + (XT.ushr p2 (1 : Int32)).toInt64)), .second, .val (.long (p1.toInt64 + p3.toInt64)), .second, .val (.long ((p1.toInt64 + p3.toInt64) + (XT.ushr p4 (1 : Int32)).toInt64)), .second, .val (.double x0), .second, .val (.double x1), .second, .val (.double y0), .second, .val (.double y1), .second, .val (.double se), .second, .val (.double jk), .second, .val (.ref a1), .val (.ref a5), .val (.ref a9), .val (.int (la + lb)), .val (.int (1 : Int32))] [])) := by
              intro TJE3 _ WJE3 HJE3
              refine g_iload WJE3 at_437 (pc' := 439) rfl rfl ?_
              refine g_if WJE3 at_439 (pcy := 461) (by decide) (pc' := 442) rfl (fun (h : (1 : Int32) = (0 : Int32)) => absurd h (by decide)) (fun _ => ?_)
              refine g_aload WJE3 at_442 (pc' := 444) rfl rfl rfl ?_
              refine g_iconst WJE3 at_444 (pc' := 445) rfl (v := (0 : Int32)) (by decide) ?_
              refine g_iload WJE3 at_445 (pc' := 447) rfl rfl ?_
              refine g_iload WJE3 at_447 (pc' := 449) rfl rfl ?_
              refine g_dload WJE3 at_449 (pc' := 451) rfl rfl ?_
              have hv0 : ((0 : Int32) < ofr ∨ ¬ (0 : Int32) < (ofr + (la + lb))) → (own_put [.double se, .double se, .double se, .double se, .double se] fo (own_mg (xs.length + ys.length) xs ys))[0]? = some (.double se) := fun q => hout 0 (by decide) (by
                have e1 := own_add hL hM (by omega)
                have e2 := own_add hfo e1 (by omega)
                have e3 : (0 : Int32).toInt = 0 := by decide
                rcases q with q | q
                · rw [Int32.lt_iff_toInt_lt] at q; omega
                · rw [Int32.lt_iff_toInt_lt] at q; omega)
              refine g_callS WJE3 (argsL := [.ref a9, .int (0 : Int32), .int ofr, .int (la + lb), .double se]) (st := []) (wd_5 hw) (wd_6 hw) (wd_7 hw) (wd_8 hw) (by decide) (c_unt l Z a0 hw n0 a9 (0 : Int32) ofr (la + lb) se (own_put [.double se, .double se, .double se, .double se, .double se] fo (own_mg (xs.length + ys.length) xs ys)) 0 (by decide) hv0 hse _ _ HJE3) pd_1 rfl rfl rfl at_451 (pc' := 454) rfl (by decide) (Wn := 0) (Nat.le_of_eq rfl) (by decide) (kc' := 3) (ks' := 11) rfl rfl (by decide) (by decide) ?_
              intro T19 v19 W19 hp19
              obtain ⟨rfl, H19⟩ := hp19
              show Goes p e below _ (T19.setTop (mkF m 454 #[.val (.int p0), .val (.int p1), .val (.int p2), .val (.int p3), .val (.int p4), .val (.int p5), .val (.int la), .val (.int lb), .val (.int af), .val (.int bf), .val (.int ofr), .val (.long p1.toInt64), .second, .val (.long (p1.toInt64 + (XT.ushr p2 (1 : Int32)).toInt64)), .second, .val (.long (p1.toInt64 + p3.toInt64)), .second, .val (.long ((p1.toInt64 + p3.toInt64) + (XT.ushr p4 (1 : Int32)).toInt64)), .second, .val (.double x0), .second, .val (.double x1), .second, .val (.double y0), .second, .val (.double y1), .second, .val (.double se), .second, .val (.double jk), .second, .val (.ref a1), .val (.ref a5), .val (.ref a9), .val (.int (la + lb)), .val (.int (1 : Int32))] [.int (1 : Int32)]))
              refine g_if W19 at_454 (pcy := 461) (by decide) (pc' := 457) rfl (fun (h : (1 : Int32) = (0 : Int32)) => absurd h (by decide)) (fun _ => ?_)
              refine g_iconst W19 at_457 (pc' := 458) rfl (v := (1 : Int32)) (by decide) ?_
              refine g_goto W19 at_458 (pc' := 462) (by decide) ?_
              refine g_istore W19 at_462 (pc' := 464) rfl (ls' := #[.val (.int p0), .val (.int p1), .val (.int p2), .val (.int p3), .val (.int p4), .val (.int p5), .val (.int la), .val (.int lb), .val (.int af), .val (.int bf), .val (.int ofr), .val (.long p1.toInt64), .second, .val (.long (p1.toInt64 + (XT.ushr p2 (1 : Int32)).toInt64)), .second, .val (.long (p1.toInt64 + p3.toInt64)), .second, .val (.long ((p1.toInt64 + p3.toInt64) + (XT.ushr p4 (1 : Int32)).toInt64)), .second, .val (.double x0), .second, .val (.double x1), .second, .val (.double y0), .second, .val (.double y1), .second, .val (.double se), .second, .val (.double jk), .second, .val (.ref a1), .val (.ref a5), .val (.ref a9), .val (.int (la + lb)), .val (.int (1 : Int32))]) rfl ?_
              refine g_iload W19 at_464 (pc' := 466) rfl rfl ?_
              refine g_if W19 at_466 (pcy := 488) (by decide) (pc' := 469) rfl (fun (h : (1 : Int32) = (0 : Int32)) => absurd h (by decide)) (fun _ => ?_)
              refine g_aload W19 at_469 (pc' := 471) rfl rfl rfl ?_
              refine g_iconst W19 at_471 (pc' := 472) rfl (v := (1 : Int32)) (by decide) ?_
              refine g_iload W19 at_472 (pc' := 474) rfl rfl ?_
              refine g_iload W19 at_474 (pc' := 476) rfl rfl ?_
              refine g_dload W19 at_476 (pc' := 478) rfl rfl ?_
              have hv1 : ((1 : Int32) < ofr ∨ ¬ (1 : Int32) < (ofr + (la + lb))) → (own_put [.double se, .double se, .double se, .double se, .double se] fo (own_mg (xs.length + ys.length) xs ys))[1]? = some (.double se) := fun q => hout 1 (by decide) (by
                have e1 := own_add hL hM (by omega)
                have e2 := own_add hfo e1 (by omega)
                have e3 : (1 : Int32).toInt = 1 := by decide
                rcases q with q | q
                · rw [Int32.lt_iff_toInt_lt] at q; omega
                · rw [Int32.lt_iff_toInt_lt] at q; omega)
              refine g_callS W19 (argsL := [.ref a9, .int (1 : Int32), .int ofr, .int (la + lb), .double se]) (st := []) (wd_5 hw) (wd_6 hw) (wd_7 hw) (wd_8 hw) (by decide) (c_unt l Z a0 hw n0 a9 (1 : Int32) ofr (la + lb) se (own_put [.double se, .double se, .double se, .double se, .double se] fo (own_mg (xs.length + ys.length) xs ys)) 1 (by decide) hv1 hse _ _ H19) pd_1 rfl rfl rfl at_478 (pc' := 481) rfl (by decide) (Wn := 0) (Nat.le_of_eq rfl) (by decide) (kc' := 3) (ks' := 11) rfl rfl (by decide) (by decide) ?_
              intro T20 v20 W20 hp20
              obtain ⟨rfl, H20⟩ := hp20
              show Goes p e below _ (T20.setTop (mkF m 481 #[.val (.int p0), .val (.int p1), .val (.int p2), .val (.int p3), .val (.int p4), .val (.int p5), .val (.int la), .val (.int lb), .val (.int af), .val (.int bf), .val (.int ofr), .val (.long p1.toInt64), .second, .val (.long (p1.toInt64 + (XT.ushr p2 (1 : Int32)).toInt64)), .second, .val (.long (p1.toInt64 + p3.toInt64)), .second, .val (.long ((p1.toInt64 + p3.toInt64) + (XT.ushr p4 (1 : Int32)).toInt64)), .second, .val (.double x0), .second, .val (.double x1), .second, .val (.double y0), .second, .val (.double y1), .second, .val (.double se), .second, .val (.double jk), .second, .val (.ref a1), .val (.ref a5), .val (.ref a9), .val (.int (la + lb)), .val (.int (1 : Int32))] [.int (1 : Int32)]))
              refine g_if W20 at_481 (pcy := 488) (by decide) (pc' := 484) rfl (fun (h : (1 : Int32) = (0 : Int32)) => absurd h (by decide)) (fun _ => ?_)
              refine g_iconst W20 at_484 (pc' := 485) rfl (v := (1 : Int32)) (by decide) ?_
              refine g_goto W20 at_485 (pc' := 489) (by decide) ?_
              refine g_istore W20 at_489 (pc' := 491) rfl (ls' := #[.val (.int p0), .val (.int p1), .val (.int p2), .val (.int p3), .val (.int p4), .val (.int p5), .val (.int la), .val (.int lb), .val (.int af), .val (.int bf), .val (.int ofr), .val (.long p1.toInt64), .second, .val (.long (p1.toInt64 + (XT.ushr p2 (1 : Int32)).toInt64)), .second, .val (.long (p1.toInt64 + p3.toInt64)), .second, .val (.long ((p1.toInt64 + p3.toInt64) + (XT.ushr p4 (1 : Int32)).toInt64)), .second, .val (.double x0), .second, .val (.double x1), .second, .val (.double y0), .second, .val (.double y1), .second, .val (.double se), .second, .val (.double jk), .second, .val (.ref a1), .val (.ref a5), .val (.ref a9), .val (.int (la + lb)), .val (.int (1 : Int32))]) rfl ?_
              refine g_iload W20 at_491 (pc' := 493) rfl rfl ?_
              refine g_if W20 at_493 (pcy := 515) (by decide) (pc' := 496) rfl (fun (h : (1 : Int32) = (0 : Int32)) => absurd h (by decide)) (fun _ => ?_)
              refine g_aload W20 at_496 (pc' := 498) rfl rfl rfl ?_
              refine g_iconst W20 at_498 (pc' := 499) rfl (v := (2 : Int32)) (by decide) ?_
              refine g_iload W20 at_499 (pc' := 501) rfl rfl ?_
              refine g_iload W20 at_501 (pc' := 503) rfl rfl ?_
              refine g_dload W20 at_503 (pc' := 505) rfl rfl ?_
              have hv2 : ((2 : Int32) < ofr ∨ ¬ (2 : Int32) < (ofr + (la + lb))) → (own_put [.double se, .double se, .double se, .double se, .double se] fo (own_mg (xs.length + ys.length) xs ys))[2]? = some (.double se) := fun q => hout 2 (by decide) (by
                have e1 := own_add hL hM (by omega)
                have e2 := own_add hfo e1 (by omega)
                have e3 : (2 : Int32).toInt = 2 := by decide
                rcases q with q | q
                · rw [Int32.lt_iff_toInt_lt] at q; omega
                · rw [Int32.lt_iff_toInt_lt] at q; omega)
              refine g_callS W20 (argsL := [.ref a9, .int (2 : Int32), .int ofr, .int (la + lb), .double se]) (st := []) (wd_5 hw) (wd_6 hw) (wd_7 hw) (wd_8 hw) (by decide) (c_unt l Z a0 hw n0 a9 (2 : Int32) ofr (la + lb) se (own_put [.double se, .double se, .double se, .double se, .double se] fo (own_mg (xs.length + ys.length) xs ys)) 2 (by decide) hv2 hse _ _ H20) pd_1 rfl rfl rfl at_505 (pc' := 508) rfl (by decide) (Wn := 0) (Nat.le_of_eq rfl) (by decide) (kc' := 3) (ks' := 11) rfl rfl (by decide) (by decide) ?_
              intro T21 v21 W21 hp21
              obtain ⟨rfl, H21⟩ := hp21
              show Goes p e below _ (T21.setTop (mkF m 508 #[.val (.int p0), .val (.int p1), .val (.int p2), .val (.int p3), .val (.int p4), .val (.int p5), .val (.int la), .val (.int lb), .val (.int af), .val (.int bf), .val (.int ofr), .val (.long p1.toInt64), .second, .val (.long (p1.toInt64 + (XT.ushr p2 (1 : Int32)).toInt64)), .second, .val (.long (p1.toInt64 + p3.toInt64)), .second, .val (.long ((p1.toInt64 + p3.toInt64) + (XT.ushr p4 (1 : Int32)).toInt64)), .second, .val (.double x0), .second, .val (.double x1), .second, .val (.double y0), .second, .val (.double y1), .second, .val (.double se), .second, .val (.double jk), .second, .val (.ref a1), .val (.ref a5), .val (.ref a9), .val (.int (la + lb)), .val (.int (1 : Int32))] [.int (1 : Int32)]))
              refine g_if W21 at_508 (pcy := 515) (by decide) (pc' := 511) rfl (fun (h : (1 : Int32) = (0 : Int32)) => absurd h (by decide)) (fun _ => ?_)
              refine g_iconst W21 at_511 (pc' := 512) rfl (v := (1 : Int32)) (by decide) ?_
              refine g_goto W21 at_512 (pc' := 516) (by decide) ?_
              refine g_istore W21 at_516 (pc' := 518) rfl (ls' := #[.val (.int p0), .val (.int p1), .val (.int p2), .val (.int p3), .val (.int p4), .val (.int p5), .val (.int la), .val (.int lb), .val (.int af), .val (.int bf), .val (.int ofr), .val (.long p1.toInt64), .second, .val (.long (p1.toInt64 + (XT.ushr p2 (1 : Int32)).toInt64)), .second, .val (.long (p1.toInt64 + p3.toInt64)), .second, .val (.long ((p1.toInt64 + p3.toInt64) + (XT.ushr p4 (1 : Int32)).toInt64)), .second, .val (.double x0), .second, .val (.double x1), .second, .val (.double y0), .second, .val (.double y1), .second, .val (.double se), .second, .val (.double jk), .second, .val (.ref a1), .val (.ref a5), .val (.ref a9), .val (.int (la + lb)), .val (.int (1 : Int32))]) rfl ?_
              refine g_iload W21 at_518 (pc' := 520) rfl rfl ?_
              refine g_if W21 at_520 (pcy := 542) (by decide) (pc' := 523) rfl (fun (h : (1 : Int32) = (0 : Int32)) => absurd h (by decide)) (fun _ => ?_)
              refine g_aload W21 at_523 (pc' := 525) rfl rfl rfl ?_
              refine g_iconst W21 at_525 (pc' := 526) rfl (v := (3 : Int32)) (by decide) ?_
              refine g_iload W21 at_526 (pc' := 528) rfl rfl ?_
              refine g_iload W21 at_528 (pc' := 530) rfl rfl ?_
              refine g_dload W21 at_530 (pc' := 532) rfl rfl ?_
              have hv3 : ((3 : Int32) < ofr ∨ ¬ (3 : Int32) < (ofr + (la + lb))) → (own_put [.double se, .double se, .double se, .double se, .double se] fo (own_mg (xs.length + ys.length) xs ys))[3]? = some (.double se) := fun q => hout 3 (by decide) (by
                have e1 := own_add hL hM (by omega)
                have e2 := own_add hfo e1 (by omega)
                have e3 : (3 : Int32).toInt = 3 := by decide
                rcases q with q | q
                · rw [Int32.lt_iff_toInt_lt] at q; omega
                · rw [Int32.lt_iff_toInt_lt] at q; omega)
              refine g_callS W21 (argsL := [.ref a9, .int (3 : Int32), .int ofr, .int (la + lb), .double se]) (st := []) (wd_5 hw) (wd_6 hw) (wd_7 hw) (wd_8 hw) (by decide) (c_unt l Z a0 hw n0 a9 (3 : Int32) ofr (la + lb) se (own_put [.double se, .double se, .double se, .double se, .double se] fo (own_mg (xs.length + ys.length) xs ys)) 3 (by decide) hv3 hse _ _ H21) pd_1 rfl rfl rfl at_532 (pc' := 535) rfl (by decide) (Wn := 0) (Nat.le_of_eq rfl) (by decide) (kc' := 3) (ks' := 11) rfl rfl (by decide) (by decide) ?_
              intro T22 v22 W22 hp22
              obtain ⟨rfl, H22⟩ := hp22
              show Goes p e below _ (T22.setTop (mkF m 535 #[.val (.int p0), .val (.int p1), .val (.int p2), .val (.int p3), .val (.int p4), .val (.int p5), .val (.int la), .val (.int lb), .val (.int af), .val (.int bf), .val (.int ofr), .val (.long p1.toInt64), .second, .val (.long (p1.toInt64 + (XT.ushr p2 (1 : Int32)).toInt64)), .second, .val (.long (p1.toInt64 + p3.toInt64)), .second, .val (.long ((p1.toInt64 + p3.toInt64) + (XT.ushr p4 (1 : Int32)).toInt64)), .second, .val (.double x0), .second, .val (.double x1), .second, .val (.double y0), .second, .val (.double y1), .second, .val (.double se), .second, .val (.double jk), .second, .val (.ref a1), .val (.ref a5), .val (.ref a9), .val (.int (la + lb)), .val (.int (1 : Int32))] [.int (1 : Int32)]))
              refine g_if W22 at_535 (pcy := 542) (by decide) (pc' := 538) rfl (fun (h : (1 : Int32) = (0 : Int32)) => absurd h (by decide)) (fun _ => ?_)
              refine g_iconst W22 at_538 (pc' := 539) rfl (v := (1 : Int32)) (by decide) ?_
              refine g_goto W22 at_539 (pc' := 543) (by decide) ?_
              refine g_istore W22 at_543 (pc' := 545) rfl (ls' := #[.val (.int p0), .val (.int p1), .val (.int p2), .val (.int p3), .val (.int p4), .val (.int p5), .val (.int la), .val (.int lb), .val (.int af), .val (.int bf), .val (.int ofr), .val (.long p1.toInt64), .second, .val (.long (p1.toInt64 + (XT.ushr p2 (1 : Int32)).toInt64)), .second, .val (.long (p1.toInt64 + p3.toInt64)), .second, .val (.long ((p1.toInt64 + p3.toInt64) + (XT.ushr p4 (1 : Int32)).toInt64)), .second, .val (.double x0), .second, .val (.double x1), .second, .val (.double y0), .second, .val (.double y1), .second, .val (.double se), .second, .val (.double jk), .second, .val (.ref a1), .val (.ref a5), .val (.ref a9), .val (.int (la + lb)), .val (.int (1 : Int32))]) rfl ?_
              refine g_iload W22 at_545 (pc' := 547) rfl rfl ?_
              refine g_if W22 at_547 (pcy := 569) (by decide) (pc' := 550) rfl (fun (h : (1 : Int32) = (0 : Int32)) => absurd h (by decide)) (fun _ => ?_)
              refine g_aload W22 at_550 (pc' := 552) rfl rfl rfl ?_
              refine g_iconst W22 at_552 (pc' := 553) rfl (v := (4 : Int32)) (by decide) ?_
              refine g_iload W22 at_553 (pc' := 555) rfl rfl ?_
              refine g_iload W22 at_555 (pc' := 557) rfl rfl ?_
              refine g_dload W22 at_557 (pc' := 559) rfl rfl ?_
              have hv4 : ((4 : Int32) < ofr ∨ ¬ (4 : Int32) < (ofr + (la + lb))) → (own_put [.double se, .double se, .double se, .double se, .double se] fo (own_mg (xs.length + ys.length) xs ys))[4]? = some (.double se) := fun q => hout 4 (by decide) (by
                have e1 := own_add hL hM (by omega)
                have e2 := own_add hfo e1 (by omega)
                have e3 : (4 : Int32).toInt = 4 := by decide
                rcases q with q | q
                · rw [Int32.lt_iff_toInt_lt] at q; omega
                · rw [Int32.lt_iff_toInt_lt] at q; omega)
              refine g_callS W22 (argsL := [.ref a9, .int (4 : Int32), .int ofr, .int (la + lb), .double se]) (st := []) (wd_5 hw) (wd_6 hw) (wd_7 hw) (wd_8 hw) (by decide) (c_unt l Z a0 hw n0 a9 (4 : Int32) ofr (la + lb) se (own_put [.double se, .double se, .double se, .double se, .double se] fo (own_mg (xs.length + ys.length) xs ys)) 4 (by decide) hv4 hse _ _ H22) pd_1 rfl rfl rfl at_559 (pc' := 562) rfl (by decide) (Wn := 0) (Nat.le_of_eq rfl) (by decide) (kc' := 3) (ks' := 11) rfl rfl (by decide) (by decide) ?_
              intro T23 v23 W23 hp23
              obtain ⟨rfl, H23⟩ := hp23
              show Goes p e below _ (T23.setTop (mkF m 562 #[.val (.int p0), .val (.int p1), .val (.int p2), .val (.int p3), .val (.int p4), .val (.int p5), .val (.int la), .val (.int lb), .val (.int af), .val (.int bf), .val (.int ofr), .val (.long p1.toInt64), .second, .val (.long (p1.toInt64 + (XT.ushr p2 (1 : Int32)).toInt64)), .second, .val (.long (p1.toInt64 + p3.toInt64)), .second, .val (.long ((p1.toInt64 + p3.toInt64) + (XT.ushr p4 (1 : Int32)).toInt64)), .second, .val (.double x0), .second, .val (.double x1), .second, .val (.double y0), .second, .val (.double y1), .second, .val (.double se), .second, .val (.double jk), .second, .val (.ref a1), .val (.ref a5), .val (.ref a9), .val (.int (la + lb)), .val (.int (1 : Int32))] [.int (1 : Int32)]))
              refine g_if W23 at_562 (pcy := 569) (by decide) (pc' := 565) rfl (fun (h : (1 : Int32) = (0 : Int32)) => absurd h (by decide)) (fun _ => ?_)
              refine g_iconst W23 at_565 (pc' := 566) rfl (v := (1 : Int32)) (by decide) ?_
              refine g_goto W23 at_566 (pc' := 570) (by decide) ?_
              refine g_istore W23 at_570 (pc' := 572) rfl (ls' := #[.val (.int p0), .val (.int p1), .val (.int p2), .val (.int p3), .val (.int p4), .val (.int p5), .val (.int la), .val (.int lb), .val (.int af), .val (.int bf), .val (.int ofr), .val (.long p1.toInt64), .second, .val (.long (p1.toInt64 + (XT.ushr p2 (1 : Int32)).toInt64)), .second, .val (.long (p1.toInt64 + p3.toInt64)), .second, .val (.long ((p1.toInt64 + p3.toInt64) + (XT.ushr p4 (1 : Int32)).toInt64)), .second, .val (.double x0), .second, .val (.double x1), .second, .val (.double y0), .second, .val (.double y1), .second, .val (.double se), .second, .val (.double jk), .second, .val (.ref a1), .val (.ref a5), .val (.ref a9), .val (.int (la + lb)), .val (.int (1 : Int32))]) rfl ?_
              refine g_iload W23 at_572 (pc' := 574) rfl rfl ?_
              exact g_zreturn W23 (by decide) at_574 rfl (by decide) (by decide)
            refine g_icmp WJE2 at_397 (pcy := 437) (by decide) (pc' := 400) rfl (fun (c24 : lb < (2 : Int32)) => ?_) (fun (c24 : ¬ lb < (2 : Int32)) => ?_)
            · exact E3 _ trivial WJE2 HJE2
            · refine g_iload WJE2 at_400 (pc' := 402) rfl rfl ?_
              refine g_if WJE2 at_402 (pcy := 434) (by decide) (pc' := 405) rfl (fun (h : (1 : Int32) = (0 : Int32)) => absurd h (by decide)) (fun _ => ?_)
              refine g_aload WJE2 at_405 (pc' := 407) rfl rfl rfl ?_
              refine g_iload WJE2 at_407 (pc' := 409) rfl rfl ?_
              refine g_iconst WJE2 at_409 (pc' := 410) rfl (v := (1 : Int32)) (by decide) ?_
              refine g_iadd WJE2 at_410 (pc' := 411) rfl rfl ?_
              refine g_dload WJE2 at_411 (pc' := 413) rfl rfl ?_
              refine g_iload WJE2 at_413 (pc' := 415) rfl rfl ?_
              refine g_dload WJE2 at_415 (pc' := 417) rfl rfl ?_
              refine g_dload WJE2 at_417 (pc' := 419) rfl rfl ?_
              have hcl := own_cE_le y1 xs
              obtain ⟨r, hr⟩ : ∃ r : Int32, r.toInt = ((own_cE y1 xs : Nat) : Int) := ⟨Int32.ofNat (own_cE y1 xs), Int32.toInt_ofNat_of_lt (by omega)⟩
              refine g_callS WJE2 (argsL := [.double y1, .int la, .double x0, .double x1]) (st := [.int (ofr + (1 : Int32)), .ref a9]) (wd_12 hw) (wd_13 hw) (wd_7 hw) (wd_14 hw) (by decide) (c_cntLe l Z a0 hw n0 y1 x0 x1 la xs hX hL r hr _ _ HJE2) pd_2 rfl rfl rfl at_419 (pc' := 422) rfl (by decide) (Wn := 2) (Nat.le_of_eq rfl) (by decide) (kc' := 3) (ks' := 11) rfl rfl (by decide) (by decide) ?_
              intro T25 v25 W25 hp25
              obtain ⟨rfl, H25⟩ := hp25
              show Goes p e below _ (T25.setTop (mkF m 422 #[.val (.int p0), .val (.int p1), .val (.int p2), .val (.int p3), .val (.int p4), .val (.int p5), .val (.int la), .val (.int lb), .val (.int af), .val (.int bf), .val (.int ofr), .val (.long p1.toInt64), .second, .val (.long (p1.toInt64 + (XT.ushr p2 (1 : Int32)).toInt64)), .second, .val (.long (p1.toInt64 + p3.toInt64)), .second, .val (.long ((p1.toInt64 + p3.toInt64) + (XT.ushr p4 (1 : Int32)).toInt64)), .second, .val (.double x0), .second, .val (.double x1), .second, .val (.double y0), .second, .val (.double y1), .second, .val (.double se), .second, .val (.double jk), .second, .val (.ref a1), .val (.ref a5), .val (.ref a9), .val (.int (la + lb)), .val (.int (1 : Int32))] [.int r, .int (ofr + (1 : Int32)), .ref a9]))
              refine g_iadd W25 at_422 (pc' := 423) rfl rfl ?_
              refine g_daload W25 H25 (i := 0) rfl (jx := (fo + 1 + own_cE y1 xs)) (own_add (own_add (n := 1) hfo (by decide) (by omega)) hr (by omega)) (v := .double y1) (by rw [Nat.add_assoc]; exact hin _ _ (by have q := own_ge2 hY hM c24; subst q; exact own_posB1 d0 d1 f0 f1 hA hB hX)) at_423 (pc' := 424) rfl ?_
              refine g_dload W25 at_424 (pc' := 426) rfl rfl ?_
              refine g_dcmp W25 at_426 (pc' := 427) rfl rfl ?_
              rw [show (cmpValue (FP.dcmp y1 y1) .l) = (0 : Int32) from dcmpV_self f1.nn .l]
              refine g_if W25 at_427 (pcy := 434) (by decide) (pc' := 430) rfl (fun (h : ¬ (0 : Int32) = (0 : Int32)) => absurd h (by decide)) (fun _ => ?_)
              refine g_iconst W25 at_430 (pc' := 431) rfl (v := (1 : Int32)) (by decide) ?_
              refine g_goto W25 at_431 (pc' := 435) (by decide) ?_
              refine g_istore W25 at_435 (pc' := 437) rfl (ls' := #[.val (.int p0), .val (.int p1), .val (.int p2), .val (.int p3), .val (.int p4), .val (.int p5), .val (.int la), .val (.int lb), .val (.int af), .val (.int bf), .val (.int ofr), .val (.long p1.toInt64), .second, .val (.long (p1.toInt64 + (XT.ushr p2 (1 : Int32)).toInt64)), .second, .val (.long (p1.toInt64 + p3.toInt64)), .second, .val (.long ((p1.toInt64 + p3.toInt64) + (XT.ushr p4 (1 : Int32)).toInt64)), .second, .val (.double x0), .second, .val (.double x1), .second, .val (.double y0), .second, .val (.double y1), .second, .val (.double se), .second, .val (.double jk), .second, .val (.ref a1), .val (.ref a5), .val (.ref a9), .val (.int (la + lb)), .val (.int (1 : Int32))]) rfl ?_
              exact E3 _ trivial W25 H25
          refine g_icmp WJE1 at_356 (pcy := 394) (by decide) (pc' := 359) rfl (fun (c26 : lb < (1 : Int32)) => ?_) (fun (c26 : ¬ lb < (1 : Int32)) => ?_)
          · exact E2 _ trivial WJE1 HJE1
          · refine g_iload WJE1 at_359 (pc' := 361) rfl rfl ?_
            refine g_if WJE1 at_361 (pcy := 391) (by decide) (pc' := 364) rfl (fun (h : (1 : Int32) = (0 : Int32)) => absurd h (by decide)) (fun _ => ?_)
            refine g_aload WJE1 at_364 (pc' := 366) rfl rfl rfl ?_
            refine g_iload WJE1 at_366 (pc' := 368) rfl rfl ?_
            refine g_dload WJE1 at_368 (pc' := 370) rfl rfl ?_
            refine g_iload WJE1 at_370 (pc' := 372) rfl rfl ?_
            refine g_dload WJE1 at_372 (pc' := 374) rfl rfl ?_
            refine g_dload WJE1 at_374 (pc' := 376) rfl rfl ?_
            have hcl := own_cE_le y0 xs
            obtain ⟨r, hr⟩ : ∃ r : Int32, r.toInt = ((own_cE y0 xs : Nat) : Int) := ⟨Int32.ofNat (own_cE y0 xs), Int32.toInt_ofNat_of_lt (by omega)⟩
            refine g_callS WJE1 (argsL := [.double y0, .int la, .double x0, .double x1]) (st := [.int ofr, .ref a9]) (wd_12 hw) (wd_13 hw) (wd_7 hw) (wd_14 hw) (by decide) (c_cntLe l Z a0 hw n0 y0 x0 x1 la xs hX hL r hr _ _ HJE1) pd_2 rfl rfl rfl at_376 (pc' := 379) rfl (by decide) (Wn := 2) (Nat.le_of_eq rfl) (by decide) (kc' := 3) (ks' := 11) rfl rfl (by decide) (by decide) ?_
            intro T27 v27 W27 hp27
            obtain ⟨rfl, H27⟩ := hp27
            show Goes p e below _ (T27.setTop (mkF m 379 #[.val (.int p0), .val (.int p1), .val (.int p2), .val (.int p3), .val (.int p4), .val (.int p5), .val (.int la), .val (.int lb), .val (.int af), .val (.int bf), .val (.int ofr), .val (.long p1.toInt64), .second, .val (.long (p1.toInt64 + (XT.ushr p2 (1 : Int32)).toInt64)), .second, .val (.long (p1.toInt64 + p3.toInt64)), .second, .val (.long ((p1.toInt64 + p3.toInt64) + (XT.ushr p4 (1 : Int32)).toInt64)), .second, .val (.double x0), .second, .val (.double x1), .second, .val (.double y0), .second, .val (.double y1), .second, .val (.double se), .second, .val (.double jk), .second, .val (.ref a1), .val (.ref a5), .val (.ref a9), .val (.int (la + lb)), .val (.int (1 : Int32))] [.int r, .int ofr, .ref a9]))
            refine g_iadd W27 at_379 (pc' := 380) rfl rfl ?_
            refine g_daload W27 H27 (i := 0) rfl (jx := (fo + own_cE y0 xs)) (own_add hfo hr (by omega)) (v := .double y0) (hin _ _ (own_posB0 d0 d1 f0 f1 hA hB hX (own_ge1 hY hM c26))) at_380 (pc' := 381) rfl ?_
            refine g_dload W27 at_381 (pc' := 383) rfl rfl ?_
            refine g_dcmp W27 at_383 (pc' := 384) rfl rfl ?_
            rw [show (cmpValue (FP.dcmp y0 y0) .l) = (0 : Int32) from dcmpV_self f0.nn .l]
            refine g_if W27 at_384 (pcy := 391) (by decide) (pc' := 387) rfl (fun (h : ¬ (0 : Int32) = (0 : Int32)) => absurd h (by decide)) (fun _ => ?_)
            refine g_iconst W27 at_387 (pc' := 388) rfl (v := (1 : Int32)) (by decide) ?_
            refine g_goto W27 at_388 (pc' := 392) (by decide) ?_
            refine g_istore W27 at_392 (pc' := 394) rfl (ls' := #[.val (.int p0), .val (.int p1), .val (.int p2), .val (.int p3), .val (.int p4), .val (.int p5), .val (.int la), .val (.int lb), .val (.int af), .val (.int bf), .val (.int ofr), .val (.long p1.toInt64), .second, .val (.long (p1.toInt64 + (XT.ushr p2 (1 : Int32)).toInt64)), .second, .val (.long (p1.toInt64 + p3.toInt64)), .second, .val (.long ((p1.toInt64 + p3.toInt64) + (XT.ushr p4 (1 : Int32)).toInt64)), .second, .val (.double x0), .second, .val (.double x1), .second, .val (.double y0), .second, .val (.double y1), .second, .val (.double se), .second, .val (.double jk), .second, .val (.ref a1), .val (.ref a5), .val (.ref a9), .val (.int (la + lb)), .val (.int (1 : Int32))]) rfl ?_
            exact E2 _ trivial W27 H27
        refine g_icmp WJE0 at_313 (pcy := 353) (by decide) (pc' := 316) rfl (fun (c28 : la < (2 : Int32)) => ?_) (fun (c28 : ¬ la < (2 : Int32)) => ?_)
        · exact E1 _ trivial WJE0 HJE0
        · refine g_iload WJE0 at_316 (pc' := 318) rfl rfl ?_
          refine g_if WJE0 at_318 (pcy := 350) (by decide) (pc' := 321) rfl (fun (h : (1 : Int32) = (0 : Int32)) => absurd h (by decide)) (fun _ => ?_)
          refine g_aload WJE0 at_321 (pc' := 323) rfl rfl rfl ?_
          refine g_iload WJE0 at_323 (pc' := 325) rfl rfl ?_
          refine g_iconst WJE0 at_325 (pc' := 326) rfl (v := (1 : Int32)) (by decide) ?_
          refine g_iadd WJE0 at_326 (pc' := 327) rfl rfl ?_
          refine g_dload WJE0 at_327 (pc' := 329) rfl rfl ?_
          refine g_iload WJE0 at_329 (pc' := 331) rfl rfl ?_
          refine g_dload WJE0 at_331 (pc' := 333) rfl rfl ?_
          refine g_dload WJE0 at_333 (pc' := 335) rfl rfl ?_
          have hcl := own_cL_le x1 ys
          obtain ⟨r, hr⟩ : ∃ r : Int32, r.toInt = ((own_cL x1 ys : Nat) : Int) := ⟨Int32.ofNat (own_cL x1 ys), Int32.toInt_ofNat_of_lt (by omega)⟩
          refine g_callS WJE0 (argsL := [.double x1, .int lb, .double y0, .double y1]) (st := [.int (ofr + (1 : Int32)), .ref a9]) (wd_9 hw) (wd_10 hw) (wd_7 hw) (wd_11 hw) (by decide) (c_cntLess l Z a0 hw n0 x1 y0 y1 lb ys hY hM r hr _ _ HJE0) pd_2 rfl rfl rfl at_335 (pc' := 338) rfl (by decide) (Wn := 2) (Nat.le_of_eq rfl) (by decide) (kc' := 3) (ks' := 11) rfl rfl (by decide) (by decide) ?_
          intro T29 v29 W29 hp29
          obtain ⟨rfl, H29⟩ := hp29
          show Goes p e below _ (T29.setTop (mkF m 338 #[.val (.int p0), .val (.int p1), .val (.int p2), .val (.int p3), .val (.int p4), .val (.int p5), .val (.int la), .val (.int lb), .val (.int af), .val (.int bf), .val (.int ofr), .val (.long p1.toInt64), .second, .val (.long (p1.toInt64 + (XT.ushr p2 (1 : Int32)).toInt64)), .second, .val (.long (p1.toInt64 + p3.toInt64)), .second, .val (.long ((p1.toInt64 + p3.toInt64) + (XT.ushr p4 (1 : Int32)).toInt64)), .second, .val (.double x0), .second, .val (.double x1), .second, .val (.double y0), .second, .val (.double y1), .second, .val (.double se), .second, .val (.double jk), .second, .val (.ref a1), .val (.ref a5), .val (.ref a9), .val (.int (la + lb)), .val (.int (1 : Int32))] [.int r, .int (ofr + (1 : Int32)), .ref a9]))
          refine g_iadd W29 at_338 (pc' := 339) rfl rfl ?_
          refine g_daload W29 H29 (i := 0) rfl (jx := (fo + 1 + own_cL x1 ys)) (own_add (own_add (n := 1) hfo (by decide) (by omega)) hr (by omega)) (v := .double x1) (by rw [Nat.add_assoc]; exact hin _ _ (by have q := own_ge2 hX hL c28; subst q; exact own_posA1 d0 d1 f0 f1 hA hB hY)) at_339 (pc' := 340) rfl ?_
          refine g_dload W29 at_340 (pc' := 342) rfl rfl ?_
          refine g_dcmp W29 at_342 (pc' := 343) rfl rfl ?_
          rw [show (cmpValue (FP.dcmp x1 x1) .l) = (0 : Int32) from dcmpV_self d1.nn .l]
          refine g_if W29 at_343 (pcy := 350) (by decide) (pc' := 346) rfl (fun (h : ¬ (0 : Int32) = (0 : Int32)) => absurd h (by decide)) (fun _ => ?_)
          refine g_iconst W29 at_346 (pc' := 347) rfl (v := (1 : Int32)) (by decide) ?_
          refine g_goto W29 at_347 (pc' := 351) (by decide) ?_
          refine g_istore W29 at_351 (pc' := 353) rfl (ls' := #[.val (.int p0), .val (.int p1), .val (.int p2), .val (.int p3), .val (.int p4), .val (.int p5), .val (.int la), .val (.int lb), .val (.int af), .val (.int bf), .val (.int ofr), .val (.long p1.toInt64), .second, .val (.long (p1.toInt64 + (XT.ushr p2 (1 : Int32)).toInt64)), .second, .val (.long (p1.toInt64 + p3.toInt64)), .second, .val (.long ((p1.toInt64 + p3.toInt64) + (XT.ushr p4 (1 : Int32)).toInt64)), .second, .val (.double x0), .second, .val (.double x1), .second, .val (.double y0), .second, .val (.double y1), .second, .val (.double se), .second, .val (.double jk), .second, .val (.ref a1), .val (.ref a5), .val (.ref a9), .val (.int (la + lb)), .val (.int (1 : Int32))]) rfl ?_
          exact E1 _ trivial W29 H29
      refine g_icmp W17 at_272 (pcy := 310) (by decide) (pc' := 275) rfl (fun (c30 : la < (1 : Int32)) => ?_) (fun (c30 : ¬ la < (1 : Int32)) => ?_)
      · exact E0 _ trivial W17 H18f
      · refine g_iload W17 at_275 (pc' := 277) rfl rfl ?_
        refine g_if W17 at_277 (pcy := 307) (by decide) (pc' := 280) rfl (fun (h : (1 : Int32) = (0 : Int32)) => absurd h (by decide)) (fun _ => ?_)
        refine g_aload W17 at_280 (pc' := 282) rfl rfl rfl ?_
        refine g_iload W17 at_282 (pc' := 284) rfl rfl ?_
        refine g_dload W17 at_284 (pc' := 286) rfl rfl ?_
        refine g_iload W17 at_286 (pc' := 288) rfl rfl ?_
        refine g_dload W17 at_288 (pc' := 290) rfl rfl ?_
        refine g_dload W17 at_290 (pc' := 292) rfl rfl ?_
        have hcl := own_cL_le x0 ys
        obtain ⟨r, hr⟩ : ∃ r : Int32, r.toInt = ((own_cL x0 ys : Nat) : Int) := ⟨Int32.ofNat (own_cL x0 ys), Int32.toInt_ofNat_of_lt (by omega)⟩
        refine g_callS W17 (argsL := [.double x0, .int lb, .double y0, .double y1]) (st := [.int ofr, .ref a9]) (wd_9 hw) (wd_10 hw) (wd_7 hw) (wd_11 hw) (by decide) (c_cntLess l Z a0 hw n0 x0 y0 y1 lb ys hY hM r hr _ _ H18f) pd_2 rfl rfl rfl at_292 (pc' := 295) rfl (by decide) (Wn := 2) (Nat.le_of_eq rfl) (by decide) (kc' := 3) (ks' := 11) rfl rfl (by decide) (by decide) ?_
        intro T31 v31 W31 hp31
        obtain ⟨rfl, H31⟩ := hp31
        show Goes p e below _ (T31.setTop (mkF m 295 #[.val (.int p0), .val (.int p1), .val (.int p2), .val (.int p3), .val (.int p4), .val (.int p5), .val (.int la), .val (.int lb), .val (.int af), .val (.int bf), .val (.int ofr), .val (.long p1.toInt64), .second, .val (.long (p1.toInt64 + (XT.ushr p2 (1 : Int32)).toInt64)), .second, .val (.long (p1.toInt64 + p3.toInt64)), .second, .val (.long ((p1.toInt64 + p3.toInt64) + (XT.ushr p4 (1 : Int32)).toInt64)), .second, .val (.double x0), .second, .val (.double x1), .second, .val (.double y0), .second, .val (.double y1), .second, .val (.double se), .second, .val (.double jk), .second, .val (.ref a1), .val (.ref a5), .val (.ref a9), .val (.int (la + lb)), .val (.int (1 : Int32))] [.int r, .int ofr, .ref a9]))
        refine g_iadd W31 at_295 (pc' := 296) rfl rfl ?_
        refine g_daload W31 H31 (i := 0) rfl (jx := (fo + own_cL x0 ys)) (own_add hfo hr (by omega)) (v := .double x0) (hin _ _ (own_posA0 d0 d1 f0 f1 hA hB (own_ge1 hX hL c30) hY)) at_296 (pc' := 297) rfl ?_
        refine g_dload W31 at_297 (pc' := 299) rfl rfl ?_
        refine g_dcmp W31 at_299 (pc' := 300) rfl rfl ?_
        rw [show (cmpValue (FP.dcmp x0 x0) .l) = (0 : Int32) from dcmpV_self d0.nn .l]
        refine g_if W31 at_300 (pcy := 307) (by decide) (pc' := 303) rfl (fun (h : ¬ (0 : Int32) = (0 : Int32)) => absurd h (by decide)) (fun _ => ?_)
        refine g_iconst W31 at_303 (pc' := 304) rfl (v := (1 : Int32)) (by decide) ?_
        refine g_goto W31 at_304 (pc' := 308) (by decide) ?_
        refine g_istore W31 at_308 (pc' := 310) rfl (ls' := #[.val (.int p0), .val (.int p1), .val (.int p2), .val (.int p3), .val (.int p4), .val (.int p5), .val (.int la), .val (.int lb), .val (.int af), .val (.int bf), .val (.int ofr), .val (.long p1.toInt64), .second, .val (.long (p1.toInt64 + (XT.ushr p2 (1 : Int32)).toInt64)), .second, .val (.long (p1.toInt64 + p3.toInt64)), .second, .val (.long ((p1.toInt64 + p3.toInt64) + (XT.ushr p4 (1 : Int32)).toInt64)), .second, .val (.double x0), .second, .val (.double x1), .second, .val (.double y0), .second, .val (.double y1), .second, .val (.double se), .second, .val (.double jk), .second, .val (.ref a1), .val (.ref a5), .val (.ref a9), .val (.int (la + lb)), .val (.int (1 : Int32))]) rfl ?_
        exact E0 _ trivial W31 H31
    refine g_iload WJJ1 at_206 (pc' := 208) rfl rfl ?_
    refine g_iconst WJJ1 at_208 (pc' := 209) rfl (v := (1 : Int32)) (by decide) ?_
    refine g_icmp WJJ1 at_209 (pcy := 219) (by decide) (pc' := 212) rfl (fun (c32 : lb < (1 : Int32)) => ?_) (fun (c32 : ¬ lb < (1 : Int32)) => ?_)
    · have e : lb = 0 := by rcases hlb with q | q | q <;> subst q <;> first | rfl | exact absurd c32 (by decide)
      subst e
      refine g_iload WJJ1 at_219 (pc' := 221) rfl rfl ?_
      refine g_iconst WJJ1 at_221 (pc' := 222) rfl (v := (2 : Int32)) (by decide) ?_
      refine g_icmp WJJ1 at_222 (pcy := 234) (by decide) (pc' := 225) rfl (fun _ => ?_) (fun (h : ¬ (0 : Int32) < (2 : Int32)) => absurd h (by decide))
      exact J2 _ _ _ [] (by decide) own_h0 (Or.inl rfl) WJJ1 HJJ1
    · refine g_aload WJJ1 at_212 (pc' := 214) rfl rfl rfl ?_
      refine g_iload WJJ1 at_214 (pc' := 216) rfl rfl ?_
      refine g_dload WJJ1 at_216 (pc' := 218) rfl rfl ?_
      refine g_dastore WJJ1 HJJ1 (i := 1) rfl (jx := fb) hfb (show fb < 3 by omega) at_218 (pc' := 219) rfl (L' := [(a9, ArC Z .double [.double se, .double se, .double se, .double se, .double se]), (a5, ArC Z .double ([.double jk, .double jk, .double jk].set fb (.double y0))), (a1, ArC Z .double avs)]) rfl ?_
      intro T33 W33 H33
      refine g_iload W33 at_219 (pc' := 221) rfl rfl ?_
      refine g_iconst W33 at_221 (pc' := 222) rfl (v := (2 : Int32)) (by decide) ?_
      refine g_icmp W33 at_222 (pcy := 234) (by decide) (pc' := 225) rfl (fun (c34 : lb < (2 : Int32)) => ?_) (fun (c34 : ¬ lb < (2 : Int32)) => ?_)
      · have e : lb = 1 := by rcases hlb with q | q | q <;> subst q <;> first | rfl | exact absurd (by decide) c32 | exact absurd c34 (by decide)
        subst e
        exact J2 _ _ _ [y0] (show (1 : Int32).toInt = (1 : Int) by decide) (by exact own_h1 (show fb < 3 by omega)) (Or.inr (Or.inl rfl)) W33 H33
      · have e : lb = 2 := by rcases hlb with q | q | q <;> subst q <;> first | rfl | exact absurd (by decide) c32 | exact absurd (by decide) c34
        subst e
        refine g_aload W33 at_225 (pc' := 227) rfl rfl rfl ?_
        refine g_iload W33 at_227 (pc' := 229) rfl rfl ?_
        refine g_iconst W33 at_229 (pc' := 230) rfl (v := (1 : Int32)) (by decide) ?_
        refine g_iadd W33 at_230 (pc' := 231) rfl rfl ?_
        refine g_dload W33 at_231 (pc' := 233) rfl rfl ?_
        refine g_dastore W33 H33 (i := 1) rfl (jx := (fb + 1)) (own_i1 (b := 5) hfb (by rw [show (5 : Int32).toInt = 5 by decide]; omega)) (by rw [List.length_set]; show fb + 1 < 3; omega) at_233 (pc' := 234) rfl (L' := [(a9, ArC Z .double [.double se, .double se, .double se, .double se, .double se]), (a5, ArC Z .double (([.double jk, .double jk, .double jk].set fb (.double y0)).set (fb + 1) (.double y1))), (a1, ArC Z .double avs)]) rfl ?_
        intro T35 W35 H35
        exact J2 _ _ _ [y0, y1] (show (2 : Int32).toInt = (2 : Int) by decide) (by exact own_h2 (show fb + 1 < 3 by omega)) (Or.inr (Or.inr rfl)) W35 H35
  refine g_icmp W14 at_181 (pcy := 191) (by decide) (pc' := 184) rfl (fun (c36 : la < (1 : Int32)) => ?_) (fun (c36 : ¬ la < (1 : Int32)) => ?_)
  · have e : la = 0 := by rcases hla with q | q | q <;> subst q <;> first | rfl | exact absurd c36 (by decide)
    subst e
    refine g_iload W14 at_191 (pc' := 193) rfl rfl ?_
    refine g_iconst W14 at_193 (pc' := 194) rfl (v := (2 : Int32)) (by decide) ?_
    refine g_icmp W14 at_194 (pcy := 206) (by decide) (pc' := 197) rfl (fun _ => ?_) (fun (h : ¬ (0 : Int32) < (2 : Int32)) => absurd h (by decide))
    exact J1 _ _ _ [] (by decide) own_h0 (Or.inl rfl) W14 H14
  · refine g_aload W14 at_184 (pc' := 186) rfl rfl rfl ?_
    refine g_iload W14 at_186 (pc' := 188) rfl rfl ?_
    refine g_dload W14 at_188 (pc' := 190) rfl rfl ?_
    refine g_dastore W14 H14 (i := 2) rfl (jx := fa) hfa (show fa < 3 by omega) at_190 (pc' := 191) rfl (L' := [(a9, ArC Z .double [.double se, .double se, .double se, .double se, .double se]), (a5, ArC Z .double [.double jk, .double jk, .double jk]), (a1, ArC Z .double ([.double jk, .double jk, .double jk].set fa (.double x0)))]) rfl ?_
    intro T37 W37 H37
    refine g_iload W37 at_191 (pc' := 193) rfl rfl ?_
    refine g_iconst W37 at_193 (pc' := 194) rfl (v := (2 : Int32)) (by decide) ?_
    refine g_icmp W37 at_194 (pcy := 206) (by decide) (pc' := 197) rfl (fun (c38 : la < (2 : Int32)) => ?_) (fun (c38 : ¬ la < (2 : Int32)) => ?_)
    · have e : la = 1 := by rcases hla with q | q | q <;> subst q <;> first | rfl | exact absurd (by decide) c36 | exact absurd c38 (by decide)
      subst e
      exact J1 _ _ _ [x0] (show (1 : Int32).toInt = (1 : Int) by decide) (by exact own_h1 (show fa < 3 by omega)) (Or.inr (Or.inl rfl)) W37 H37
    · have e : la = 2 := by rcases hla with q | q | q <;> subst q <;> first | rfl | exact absurd (by decide) c36 | exact absurd (by decide) c38
      subst e
      refine g_aload W37 at_197 (pc' := 199) rfl rfl rfl ?_
      refine g_iload W37 at_199 (pc' := 201) rfl rfl ?_
      refine g_iconst W37 at_201 (pc' := 202) rfl (v := (1 : Int32)) (by decide) ?_
      refine g_iadd W37 at_202 (pc' := 203) rfl rfl ?_
      refine g_dload W37 at_203 (pc' := 205) rfl rfl ?_
      refine g_dastore W37 H37 (i := 2) rfl (jx := (fa + 1)) (own_i1 (b := 5) hfa (by rw [show (5 : Int32).toInt = 5 by decide]; omega)) (by rw [List.length_set]; show fa + 1 < 3; omega) at_205 (pc' := 206) rfl (L' := [(a9, ArC Z .double [.double se, .double se, .double se, .double se, .double se]), (a5, ArC Z .double [.double jk, .double jk, .double jk]), (a1, ArC Z .double (([.double jk, .double jk, .double jk].set fa (.double x0)).set (fa + 1) (.double x1)))]) rfl ?_
      intro T39 W39 H39
      exact J1 _ _ _ [x0, x1] (show (2 : Int32).toInt = (2 : Int) by decide) (by exact own_h2 (show fa + 1 < 3 by omega)) (Or.inr (Or.inr rfl)) W39 H39
set_option maxRecDepth 65536 in
set_option maxHeartbeats 40000000 in
theorem comes_1 {Post : Tables → Env → Array Value → State → Outcome → State → Prop} (hpost : ∀ tb e args s v u, (limb_1_1.after args s (.returned v) u = true ∧ limb_1_2.after args s (.returned v) u = true ∧ True) → FrameEnd s (.returned v) u (Jvm.fieldLocs frame_1_writes args s ++ Jvm.arrayLocs frame_1_arrays args s ++ Jvm.staticLocs frame_1_statics s) 16 128 → Post tb e args s (.returned v) u) :
    ArmFor flags0 classFile x code maxLocals ret World_1 tables_1 room_1 Calls_1 rest_1 Pre_1 Post := by
  intro l hfl _ _ p e ha hc hk s m args below hf hA hF happ hP
  obtain ⟨hcalls, hrest, hpre⟩ := hP
  obtain ⟨-, -, -, hnamed, -, -, -, hat⟩ := (Spec.applies_iff hf).mp happ
  obtain ⟨hg, hn⟩ := and_e (Cond.before_iff.mp (show (Jvm.Cond.and given_1 narrow_1).before args s = true from hpre))
  obtain ⟨hcount, hg0⟩ := and_e hg
  obtain ⟨ha0, hg1⟩ := and_e hg0
  obtain ⟨ha1, hg2⟩ := and_e hg1
  obtain ⟨ha2, hg3⟩ := and_e hg2
  obtain ⟨ha3, hg4⟩ := and_e hg3
  obtain ⟨ha4, hg5⟩ := and_e hg4
  obtain ⟨w0, w1, w2, w3, w4, w5, rfl⟩ : ∃ w0 w1 w2 w3 w4 w5 : Value, args = #[w0, w1, w2, w3, w4, w5] := by
    have hs : args.size = 6 := by simpa [Cond.value, given_1] using hcount
    obtain ⟨L⟩ := args
    match L, hs with
    | [w0, w1, w2, w3, w4, w5], _ => exact ⟨w0, w1, w2, w3, w4, w5, rfl⟩
  have hw := fun d (hd : d ∈ tables_1) => atoms_spec (ws := Jvm.Cond.code x code maxLocals ret :: tables_1) hat d (List.mem_cons_of_mem _ hd)
  obtain ⟨p0, e0⟩ := is_v ha0
  obtain rfl : w0 = (.int p0) := Option.some.inj e0
  obtain ⟨p1, e1⟩ := is_v ha1
  obtain rfl : w1 = (.int p1) := Option.some.inj e1
  obtain ⟨p2, e2⟩ := is_v ha2
  obtain rfl : w2 = (.int p2) := Option.some.inj e2
  obtain ⟨p3, e3⟩ := is_v ha3
  obtain rfl : w3 = (.int p3) := Option.some.inj e3
  obtain ⟨p4, e4⟩ := is_v ha4
  obtain rfl : w4 = (.int p4) := Option.some.inj e4
  obtain ⟨p5, e5⟩ := is_v hg5
  obtain rfl : w5 = (.int p5) := Option.some.inj e5
  obtain ⟨n, o, h1, h2, h3, _, L, rfl, ⟨N, rfl⟩, hq⟩ := law_con l s _ hw s.heap.size p0 p1 p2 p3 p4 p5 s.heap (Hp.nil Bs.start) p e ha hc hk s m _ below hf ((Spec.applies_iff_loose hf).mp happ).1 ⟨rfl, State.Warmed39.refl s, rfl⟩ trivial
  refine ⟨n, _, h1, h2, h3, hpost _ _ _ _ _ _ ⟨Cond.after_iff.mpr rfl, Cond.after_iff.mpr (eq_i res_at (Term.int_eval (1)) rfl), trivial⟩ ⟨hq.1, hq.2.1, (hq.2.2.sift fun y hy => Or.inr (N y hy)).mono (by decide) (by decide)⟩⟩
theorem main_1_1 : Claimed_1_1 := comes_1 fun _ _ _ _ _ _ h hF => ⟨h.1, hF⟩
theorem main_1_2 : Claimed_1_2 := comes_1 fun _ _ _ _ _ _ h hF => ⟨h.2.1, hF⟩
end Jvm.Pilot.@@N@@
namespace Jvm.Pilot.@@N@@
open Jvm Jvm.ClassFile Sem Op Lib Jvm.Free Jvm.Stand Jvm.Pilot.@@N@@.Jvm.D
/-! MADE BY PROGRAM (witnessworld.py) out of the Statement's table words and the real class files: 11 classes; the members and pool entries that the words name. The judged class is class 1, her method 4. -/
namespace start1
open Jvm.ClassFile
def u (s : String) : CpInfo := .utf8 (stringToUtf16 s)
/-- a pool by its gaps: so many unusable entries, then the entry; so many at the end -/
def gap : Nat → List CpInfo → List CpInfo
  | 0, r => r
  | n + 1, r => .unusable :: gap n r
def poolList (es : List (Nat × CpInfo)) (last : Nat) : List CpInfo := es.foldr (fun e r => gap e.1 (e.2 :: r)) (gap last [])
def pool (es : List (Nat × CpInfo)) (last : Nat) : Array CpInfo := ⟨poolList es last⟩
def fileOf (pool : Array CpInfo) (this : Nat) (attrs : Array Attribute := #[]) (ms : Array MethodInfo := #[]) (fl : Nat := 33) (sup : Nat := 0) (ifs : Array Nat := #[]) (fds : Array FieldInfo := #[]) : ClassFile where
  minorVersion := 0
  majorVersion := 65
  constantPool := pool
  accessFlags := fl
  thisClass := this
  superClass := sup
  interfaces := ifs
  fields := fds
  methods := ms
  attributes := attrs
def plain (name : String) (sup : Option ClassId) : Class where
  name := name
  kind := .ordinary
  loader := none
  accessFlags := 33
  super := sup
  interfaces := #[]
  cf := none
  fields := #[]
  methods := #[]
  instanceTypes := #[]
  staticTypes := #[]
  resolved := #[]
  callSites := []
  init := .initialized
  statics := none
  mirror := none

def pool0 : Array CpInfo := pool [(5, u "<init>"), (0, u "()V"), (1, .class_ 10), (1, u "java/lang/Object")] 113

def k0m0 : Method := { name := "<init>", desc := "()V", sig := { parameters := [], returnType := none }, accessFlags := 1, code := none }
/-- java/lang/Object -/
def k0 : Class := { plain "java/lang/Object" none with
  accessFlags := 33
  interfaces := #[]
  cf := some (fileOf pool0 8 #[] #[{ accessFlags := 1, nameIndex := 5, descriptorIndex := 6, attributes := #[] }] 33 0 #[] #[])
  fields := #[]
  methods := #[k0m0]
  instanceTypes := #[]
  staticTypes := #[]
  resolved := Array.replicate 124 none
  statics := none }

def pool1 : Array CpInfo := pool [(2, .class_ 4), (1, u "java/lang/Object"), (0, u "<init>"), (0, u "()V"), (0, .methodref 8 9), (0, .class_ 10), (0, .nameAndType 11 12), (0, u "com/example/tallymark/tallymark/window/SortedRuns"), (0, u "merge"), (0, u "([DII[DII[DI)V"), (0, .methodref 14 15), (0, .class_ 16), (0, .nameAndType 17 18), (0, u "com/example/tallymark/tallymark/window/SortedRunsMergePinLaw"), (0, u "cntLess"), (0, u "(DIDD)I"), (0, .methodref 14 20), (0, .nameAndType 21 18), (0, u "cntLe"), (0, .methodref 14 23), (0, .nameAndType 24 25), (0, u "untouched"), (0, u "([DIIID)Z"), (3, u "law"), (0, u "(IIIIII)Z")] 4

def k1m0 : Method := { name := "<init>", desc := "()V", sig := { parameters := [], returnType := none }, accessFlags := 2, code := none }
def k1c1 : Code := { maxStack := 4, maxLocals := 8, code := method_2_code, exceptionTable := #[], attributes := #[] }
def k1m1 : Method := { name := "cntLess", desc := "(DIDD)I", sig := { parameters := [.double, .int, .double, .double], returnType := some .int }, accessFlags := 10, code := some k1c1 }
def k1c2 : Code := { maxStack := 4, maxLocals := 8, code := method_3_code, exceptionTable := #[], attributes := #[] }
def k1m2 : Method := { name := "cntLe", desc := "(DIDD)I", sig := { parameters := [.double, .int, .double, .double], returnType := some .int }, accessFlags := 10, code := some k1c2 }
def k1c3 : Code := { maxStack := 4, maxLocals := 6, code := method_4_code, exceptionTable := #[], attributes := #[] }
def k1m3 : Method := { name := "untouched", desc := "([DIIID)Z", sig := { parameters := [(.array .double), .int, .int, .int, .double], returnType := some .boolean }, accessFlags := 10, code := some k1c3 }
def k1c4 : Code := { maxStack := 9, maxLocals := 36, code := code, exceptionTable := #[], attributes := #[] }
def k1m4 : Method := { name := "law", desc := "(IIIIII)Z", sig := { parameters := [.int, .int, .int, .int, .int, .int], returnType := some .boolean }, accessFlags := 9, code := some k1c4 }
/-- com/example/tallymark/tallymark/window/SortedRunsMergePinLaw -/
def k1 : Class := { plain "com/example/tallymark/tallymark/window/SortedRunsMergePinLaw" (some 0) with
  accessFlags := 49
  interfaces := #[]
  cf := some (fileOf pool1 14 #[] #[{ accessFlags := 2, nameIndex := 5, descriptorIndex := 6, attributes := #[] }, { accessFlags := 10, nameIndex := 17, descriptorIndex := 18, attributes := #[] }, { accessFlags := 10, nameIndex := 21, descriptorIndex := 18, attributes := #[] }, { accessFlags := 10, nameIndex := 24, descriptorIndex := 25, attributes := #[] }, { accessFlags := 9, nameIndex := 29, descriptorIndex := 30, attributes := #[] }] 49 2 #[] #[])
  fields := #[]
  methods := #[k1m0, k1m1, k1m2, k1m3, k1m4]
  instanceTypes := #[]
  staticTypes := #[]
  resolved := Array.replicate 35 none
  statics := none }

def pool2 : Array CpInfo := pool [(2, .class_ 4), (1, u "java/lang/Object"), (0, u "<init>"), (0, u "()V"), (1, .class_ 10), (1, u "com/example/tallymark/tallymark/window/SortedRuns"), (0, u "merge"), (0, u "([DII[DII[DI)V")] 9

def k2m0 : Method := { name := "<init>", desc := "()V", sig := { parameters := [], returnType := none }, accessFlags := 2, code := none }
def k2c1 : Code := { maxStack := 4, maxLocals := 13, code := prog_67_method_2_code, exceptionTable := #[], attributes := #[] }
def k2m1 : Method := { name := "merge", desc := "([DII[DII[DI)V", sig := { parameters := [(.array .double), .int, .int, (.array .double), .int, .int, (.array .double), .int], returnType := none }, accessFlags := 8, code := some k2c1 }
/-- com/example/tallymark/tallymark/window/SortedRuns -/
def k2 : Class := { plain "com/example/tallymark/tallymark/window/SortedRuns" (some 0) with
  accessFlags := 48
  interfaces := #[]
  cf := some (fileOf pool2 8 #[] #[{ accessFlags := 2, nameIndex := 5, descriptorIndex := 6, attributes := #[] }, { accessFlags := 8, nameIndex := 11, descriptorIndex := 12, attributes := #[] }] 48 2 #[] #[])
  fields := #[]
  methods := #[k2m0, k2m1]
  instanceTypes := #[]
  staticTypes := #[]
  resolved := Array.replicate 22 none
  statics := none }

def pool3 : Array CpInfo := pool [(1, u "java/lang/Cloneable"), (0, .class_ 1), (0, u "java/lang/Object"), (0, .class_ 3)] 3

/-- java/lang/Cloneable -/
def k3 : Class := { plain "java/lang/Cloneable" (some 0) with
  accessFlags := 1537
  interfaces := #[]
  cf := some (fileOf pool3 2 #[] #[] 1537 4 #[] #[])
  fields := #[]
  methods := #[]
  instanceTypes := #[]
  staticTypes := #[]
  resolved := Array.replicate 8 none
  statics := none }

def pool4 : Array CpInfo := pool [(1, u "java/io/Serializable"), (0, .class_ 1), (0, u "java/lang/Object"), (0, .class_ 3)] 3

/-- java/io/Serializable -/
def k4 : Class := { plain "java/io/Serializable" (some 0) with
  accessFlags := 1537
  interfaces := #[]
  cf := some (fileOf pool4 2 #[] #[] 1537 4 #[] #[])
  fields := #[]
  methods := #[]
  instanceTypes := #[]
  staticTypes := #[]
  resolved := Array.replicate 8 none
  statics := none }

/-- the primitive byte -/
def k5 : Class := { plain "byte" none with kind := .primitive 'B', accessFlags := 0x411 }
/-- [B -/
def k6 : Class := { plain "[B" (some 0) with kind := .array 5 .byte, interfaces := #[3, 4], accessFlags := 1041 }

/-- the primitive double -/
def k7 : Class := { plain "double" none with kind := .primitive 'D', accessFlags := 0x411 }
/-- [D -/
def k8 : Class := { plain "[D" (some 0) with kind := .array 7 .double, interfaces := #[3, 4], accessFlags := 1041 }

/-- the primitive int -/
def k9 : Class := { plain "int" none with kind := .primitive 'I', accessFlags := 0x411 }
/-- [I -/
def k10 : Class := { plain "[I" (some 0) with kind := .array 9 .int, interfaces := #[3, 4], accessFlags := 1041 }

def heap : Heap := #[]
def classes : Array Class := #[k0, k1, k2, k3, k4, k5, k6, k7, k8, k9, k10]
def interned : List (Array UInt16 × Addr) := []
def slotsUsed : Nat := 0
def theMethod : MethodId := ⟨1, 4⟩
def args0 : Array Value := #[.int 1, .int 2, .int 3, .int 4, .int 5, .int 6]
def aboutOver (below : List Frame) : State where
  vm := { classes := classes, interned := interned.toArray }
  heap := heap
  slotsUsed := slotsUsed
  threads := #[{ frames := .invoking theMethod args0 :: below }]
def below0 : List Frame := [.native { method := ⟨0, 0⟩, args := #[] }]
def about1 : State := aboutOver below0
def p0 : Program := .bare "" "" ""
def e0 : Env := launch0.env 0 0 0
theorem w_frames : about1.frames = Frame.invoking theMethod args0 :: below0 := rfl
set_option maxRecDepth 65536 in
theorem w_args : argsFit about1.vm theMethod args0 = true := by decide +kernel
set_option maxRecDepth 65536 in
theorem w_heap : heapFits about1 = true := by decide +kernel
set_option maxRecDepth 65536 in
theorem w_runnable : about1.curStatus? = some .runnable := by decide +kernel
set_option maxRecDepth 65536 in
theorem w_alone : about1.alone = true := by decide +kernel
set_option maxRecDepth 65536 in
theorem w_named : about1.methodNamed? x = some theMethod := by decide +kernel
set_option maxRecDepth 65536 in
theorem w_hears : about1.hears theMethod below0 = true := by decide +kernel
set_option maxRecDepth 65536 in
theorem w_ripe : about1.ripe theMethod args0 below0 = true := by decide +kernel
theorem w_running : about1.status = .running := rfl
set_option maxRecDepth 65536 in
theorem w_room : about1.hasRoom e0.platform room_1 = true :=
  launch0.hasRoom_least _ room_1 (by decide +kernel) (by decide +kernel) (by decide +kernel) (by decide +kernel) (by decide +kernel) (by decide +kernel)
theorem allAtoms_all (ts : List Jvm.Cond) (a : Array Jvm.Value) (st : Jvm.State) : (allAtoms ts).before a st = ts.all (fun c => c.before a st) := by
  induction ts with
  | nil => rfl
  | cons c t ih =>
    show (Jvm.Cond.and c (allAtoms t)).before a st = _
    rw [Jvm.Cond.before_and, ih, List.all_cons]
def words1 : List Jvm.Cond := Jvm.Cond.code x code maxLocals ret :: tables_1
/-- a 'code' word, met by the world's own term for the bytes: nothing is compared byte by byte -/
theorem code_word {y : MethodName} {bytes : ByteArray} {mx : Nat} {rt : Option FieldType} {a : Array Value} {s : State} {m : MethodId} {meth : Method} {c : Code} (h1 : s.methodNamed? y = some m) (h2 : s.vm.method? m = some meth) (h3 : meth.code = some c) (h4 : c.code = bytes)
    (h5 : (c.maxLocals == mx && c.exceptionTable.isEmpty && decide (c.maxStack ≤ mostOperands) && decide (meth.sig.returnType = rt) && !meth.locks && decide (parseMethodDescriptor y.desc = some meth.sig)) = true) : (Jvm.Cond.code y bytes mx rt).before a s = true := by
  simp only [Bool.and_eq_true, beq_iff_eq, Bool.not_eq_true', decide_eq_true_eq] at h5
  obtain ⟨⟨⟨⟨⟨g1, g2⟩, g3⟩, g4⟩, g5⟩, g6⟩ := h5
  simp [Cond.before, Cond.holds, Cond.value, h1, h2, h3, h4, g1, g2, g3, g4, g5, g6]
def isCode : Jvm.Cond → Bool
  | .code _ _ _ _ => true
  | _ => false
theorem all_split {L : List Jvm.Cond} {P : Jvm.Cond → Bool} (h1 : L.all (fun c => isCode c || P c) = true) (h2 : ∀ c ∈ L.filter isCode, P c = true) : L.all P = true := by
  refine List.all_eq_true.mpr fun c hc => ?_
  have h := List.all_eq_true.mp h1 c hc
  rcases Bool.eq_false_or_eq_true (isCode c) with hi | hi
  · exact h2 c (List.mem_filter.mpr ⟨hc, hi⟩)
  · simpa [hi] using h
set_option maxRecDepth 65536 in
theorem w_c0 : (Jvm.Cond.code x code maxLocals ret).before args0 about1 = true := code_word (m := ⟨1, 4⟩) (meth := k1m4) (c := k1c4) (by decide +kernel) rfl rfl rfl (by decide +kernel)
set_option maxRecDepth 65536 in
theorem w_c1 : (Jvm.Cond.code ({ cls := "com/example/tallymark/tallymark/window/SortedRuns", name := "merge", desc := "([DII[DII[DI)V" } : Jvm.MethodName) prog_67_method_2_code (13 : Nat) (Option.none : Option Jvm.ClassFile.FieldType)).before args0 about1 = true := code_word (m := ⟨2, 1⟩) (meth := k2m1) (c := k2c1) (by decide +kernel) rfl rfl rfl (by decide +kernel)
set_option maxRecDepth 65536 in
theorem w_c2 : (Jvm.Cond.code ({ cls := "com/example/tallymark/tallymark/window/SortedRunsMergePinLaw", name := "untouched", desc := "([DIIID)Z" } : Jvm.MethodName) method_4_code (6 : Nat) (Option.some Jvm.ClassFile.FieldType.boolean)).before args0 about1 = true := code_word (m := ⟨1, 3⟩) (meth := k1m3) (c := k1c3) (by decide +kernel) rfl rfl rfl (by decide +kernel)
set_option maxRecDepth 65536 in
theorem w_c3 : (Jvm.Cond.code ({ cls := "com/example/tallymark/tallymark/window/SortedRunsMergePinLaw", name := "cntLess", desc := "(DIDD)I" } : Jvm.MethodName) method_2_code (8 : Nat) (Option.some Jvm.ClassFile.FieldType.int)).before args0 about1 = true := code_word (m := ⟨1, 1⟩) (meth := k1m1) (c := k1c1) (by decide +kernel) rfl rfl rfl (by decide +kernel)
set_option maxRecDepth 65536 in
theorem w_c4 : (Jvm.Cond.code ({ cls := "com/example/tallymark/tallymark/window/SortedRunsMergePinLaw", name := "cntLe", desc := "(DIDD)I" } : Jvm.MethodName) method_3_code (8 : Nat) (Option.some Jvm.ClassFile.FieldType.int)).before args0 about1 = true := code_word (m := ⟨1, 2⟩) (meth := k1m2) (c := k1c2) (by decide +kernel) rfl rfl rfl (by decide +kernel)
def codes1 : List Jvm.Cond := [Jvm.Cond.code x code maxLocals ret, Jvm.Cond.code ({ cls := "com/example/tallymark/tallymark/window/SortedRuns", name := "merge", desc := "([DII[DII[DI)V" } : Jvm.MethodName) prog_67_method_2_code (13 : Nat) (Option.none : Option Jvm.ClassFile.FieldType), Jvm.Cond.code ({ cls := "com/example/tallymark/tallymark/window/SortedRunsMergePinLaw", name := "untouched", desc := "([DIIID)Z" } : Jvm.MethodName) method_4_code (6 : Nat) (Option.some Jvm.ClassFile.FieldType.boolean), Jvm.Cond.code ({ cls := "com/example/tallymark/tallymark/window/SortedRunsMergePinLaw", name := "cntLess", desc := "(DIDD)I" } : Jvm.MethodName) method_2_code (8 : Nat) (Option.some Jvm.ClassFile.FieldType.int), Jvm.Cond.code ({ cls := "com/example/tallymark/tallymark/window/SortedRunsMergePinLaw", name := "cntLe", desc := "(DIDD)I" } : Jvm.MethodName) method_3_code (8 : Nat) (Option.some Jvm.ClassFile.FieldType.int)]
set_option maxRecDepth 65536 in
theorem codes_eq : words1.filter isCode = codes1 := rfl
theorem w_codes : ∀ c ∈ words1.filter isCode, c.before args0 about1 = true := by
  rw [codes_eq]
  intro c hc
  simp only [codes1, List.mem_cons, List.not_mem_nil, or_false] at hc
  rcases hc with rfl | rfl | rfl | rfl | rfl
  · exact w_c0
  · exact w_c1
  · exact w_c2
  · exact w_c3
  · exact w_c4
set_option maxRecDepth 65536 in
theorem w_t1 : words1.all (fun c => isCode c || c.before args0 about1) = true := by decide +kernel
theorem w_tables : (allAtoms (Jvm.Cond.code x code maxLocals ret :: tables_1)).before args0 about1 = true := by
  rw [allAtoms_all]
  show words1.all (fun c => c.before args0 about1) = true
  refine all_split ?_ w_codes
  rw [w_t1]
set_option maxRecDepth 65536 in
theorem w_case : (Jvm.Cond.and given_1 narrow_1).before args0 about1 = true := by decide +kernel
theorem w_applies : (headSpec (Jvm.Cond.code x code maxLocals ret :: tables_1) room_1).applies x e0.platform about1 = true :=
  (Spec.applies_iff w_frames).mpr ⟨w_running, w_runnable, w_alone, w_named, w_hears, w_ripe, w_room, w_tables⟩
theorem atStart : AtStart classFile x code maxLocals ret World_1 tables_1 room_1 Calls_1 rest_1 Pre_1 launch0 p0 e0 about1 theMethod args0 below0 :=
  ⟨lists_1, trivial, launch0.admits_env _ _ _, launch0.least_env, fairChoices_fair.cas, fairChoices_fair.clock, w_frames, w_args, w_heap, w_applies, trivial, trivial, w_case⟩
end start1
theorem witness_1 : WitnessClaimed_1 := ⟨start1.p0, start1.e0, start1.about1, start1.theMethod, start1.args0, start1.below0, start1.atStart⟩
end Jvm.Pilot.@@N@@
