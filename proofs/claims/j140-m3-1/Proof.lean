import JvmDerived
import JvmDerived.Pilot.@@N@@Statement
import JvmDerived.Pilot.@@N@@Code
set_option linter.unusedVariables false
set_option linter.unusedSimpArgs false

namespace Jvm.OwnKit
open Sem ClassFile Op Lib Jvm.Stand Jvm.Free Jvm.LawKit Jvm.RoadKit Jvm.Free.Fl
/-- what is left to show of a run: from U it ends and returns, with E of the value, the end and the places written -/
def Goes (p : Program) (e : Env) (below : List Frame) (E : Option Value → State → List Loc → Prop) (U : State) : Prop :=
  ∃ s₂ v L, Steps p.tables e below U s₂ ∧ s₂.status = .running ∧ Ended s₂ below (.returned v) ∧ E v s₂ L
/-- the common end: nothing below n0 is written, Q holds of the value and the heap, the frame is k cells and j slots -/
def En (s : State) (n0 k j : Nat) (Q : Option Value → Heap → Prop) (v : Option Value) (s₂ : State) (L : List Loc) : Prop := (Fr n0 L ∧ Q v s₂.heap) ∧ FrameEnd s (.returned v) s₂ L k j
/-- where a walk of the body y stands -/
def Wk (Z : State) (y : MethodName) (bytes : ByteArray) (ml : Nat) (ret : Option FieldType) (n0 : Nat) (p : Program) (l : Launch) (e : Env) (R : Room) (s : State) (m : MethodId) (args : Array Value) (below : List Frame) (meth : Method) (c : Code) (T : State) (kc ks : Nat) : Prop :=
  (p.tables.exec = Jvm.exec ∧ Z.Warmed39 s.vm ∧ s.vm.findClass y.cls = some m.cls ∧ c.code = bytes ∧ c.maxLocals = ml ∧ meth.sig.returnType = ret ∧ meth.locks = false ∧ meth.name = y.name) ∧ ∃ locs, Stand p l e R s m args below meth c T locs kc ks ∧ Fr n0 locs
/-- a body's contract: called with the values as over the heap h0 it returns with Post -/
def Con (l : Launch) (Z : State) (n0 : Nat) (y : MethodName) (ws : List Cond) (bytes : ByteArray) (ml : Nat) (ret : Option FieldType) (rm : Room) (as : Array Value) (h0 : Heap) (Post : Option Value → Heap → Prop) : Prop :=
  MetFree l y (head1 (Cond.code y bytes ml ret :: ws) rm) (fun a U => a = as ∧ Z.Warmed39 U.vm ∧ U.heap = h0) (fun _ _ _ _ _ => True) (fun _ U o U' => ∃ v L, o = .returned v ∧ (Fr n0 L ∧ Post v U'.heap) ∧ FrameEnd U o U' L rm.cells rm.slots)
section Laws
variable {Z : State} {y : MethodName} {bytes : ByteArray} {ml : Nat} {ret : Option FieldType} {n0 : Nat} {p : Program} {l : Launch} {e : Env} {R : Room} {s : State} {m : MethodId} {args : Array Value} {below : List Frame} {meth : Method} {c : Code} {T : State} {kc ks k j : Nat} {Q : Option Value → Heap → Prop} {E : Option Value → State → List Loc → Prop} {pc pc' : Nat} {ls : Array Slot} {st : List Value} {a0 : Array Value}
theorem Goes.back {U U' : State} (g : Goes p e below E U') (h : ∀ t, Steps p.tables e below U' t → Steps p.tables e below U t) : Goes p e below E U := by
  obtain ⟨s₂, v, L, h1, h2⟩ := g; exact ⟨s₂, v, L, h _ h1, h2⟩
theorem Goes.mono {U : State} {E' : Option Value → State → List Loc → Prop} (g : Goes p e below E U) (h : ∀ v t L, E v t L → E' v t L) : Goes p e below E' U := by
  obtain ⟨s₂, v, L, h1, h2, h3, h4⟩ := g; exact ⟨s₂, v, L, h1, h2, h3, h _ _ _ h4⟩
theorem Con.mono {ws : List Cond} {rm : Room} {as : Array Value} {h0 : Heap} {Post Post' : Option Value → Heap → Prop} (C : Con l Z n0 y ws bytes ml ret rm as h0 Post) (h : ∀ v h, Post v h → Post' v h) : Con l Z n0 y ws bytes ml ret rm as h0 Post' := by
  intro p e ha hc hk s m args below hf happ hP hK
  obtain ⟨a, b, h1, h2, h3, v, L, h4, ⟨h5, h6⟩, h7⟩ := C p e ha hc hk s m args below hf happ hP hK
  exact ⟨a, b, h1, h2, h3, v, L, h4, ⟨h5, h _ _ h6⟩, h7⟩

theorem Wk.hx (W : Wk Z y bytes ml ret n0 p l e R s m args below meth c T kc ks) : p.tables.exec = Jvm.exec := W.1.1
theorem Wk.hZ (W : Wk Z y bytes ml ret n0 p l e R s m args below meth c T kc ks) : Z.Warmed39 s.vm := W.1.2.1
theorem Wk.hown (W : Wk Z y bytes ml ret n0 p l e R s m args below meth c T kc ks) : s.vm.findClass y.cls = some m.cls := W.1.2.2.1
theorem Wk.hby (W : Wk Z y bytes ml ret n0 p l e R s m args below meth c T kc ks) : c.code = bytes := W.1.2.2.2.1
theorem Wk.hml (W : Wk Z y bytes ml ret n0 p l e R s m args below meth c T kc ks) : c.maxLocals = ml := W.1.2.2.2.2.1
theorem Wk.hret (W : Wk Z y bytes ml ret n0 p l e R s m args below meth c T kc ks) : meth.sig.returnType = ret := W.1.2.2.2.2.2.1
theorem Wk.hlk (W : Wk Z y bytes ml ret n0 p l e R s m args below meth c T kc ks) : meth.locks = false := W.1.2.2.2.2.2.2.1
theorem Wk.hnm (W : Wk Z y bytes ml ret n0 p l e R s m args below meth c T kc ks) : meth.name = y.name := W.1.2.2.2.2.2.2.2
theorem Wk.here (W : Wk Z y bytes ml ret n0 p l e R s m args below meth c T kc ks) : At T m c below := by obtain ⟨_, _, X, _⟩ := W; exact X.here
theorem g_iloadN (W : Wk Z y bytes ml ret n0 p l e R s m args below meth c T kc ks) {i : Fin 4} {v : Int32} (hd : decode bytes pc = .ok (.iload_n i, 1)) (hpc : pc + 1 = pc') (hl : ls[i.val]? = some (.val (.int v))) (K : Goes p e below E (T.setTop (mkF m pc' ls (.int v :: st)))) : Goes p e below E (T.setTop (mkF m pc ls st)) := by
  subst hpc; exact K.back fun _ r => XS.iloadN W.here W.hx rfl (hb W.hby hd) hl r
theorem g_iload (W : Wk Z y bytes ml ret n0 p l e R s m args below meth c T kc ks) {i : Nat} {v : Int32} (hd : decode bytes pc = .ok (.iload i, 2)) (hpc : pc + 2 = pc') (hl : ls[i]? = some (.val (.int v))) (K : Goes p e below E (T.setTop (mkF m pc' ls (.int v :: st)))) : Goes p e below E (T.setTop (mkF m pc ls st)) := by
  subst hpc; exact K.back fun _ r => XS.iload W.here W.hx rfl (hb W.hby hd) hl r
theorem g_lloadN (W : Wk Z y bytes ml ret n0 p l e R s m args below meth c T kc ks) {i : Fin 4} {v : Int64} (hd : decode bytes pc = .ok (.lload_n i, 1)) (hpc : pc + 1 = pc') (hl : ls[i.val]? = some (.val (.long v))) (K : Goes p e below E (T.setTop (mkF m pc' ls (.long v :: st)))) : Goes p e below E (T.setTop (mkF m pc ls st)) := by
  subst hpc; exact K.back fun _ r => XT.lloadN W.here W.hx rfl (hb W.hby hd) hl r
theorem g_lload (W : Wk Z y bytes ml ret n0 p l e R s m args below meth c T kc ks) {i : Nat} {v : Int64} (hd : decode bytes pc = .ok (.lload i, 2)) (hpc : pc + 2 = pc') (hl : ls[i]? = some (.val (.long v))) (K : Goes p e below E (T.setTop (mkF m pc' ls (.long v :: st)))) : Goes p e below E (T.setTop (mkF m pc ls st)) := by
  subst hpc; exact K.back fun _ r => XT.lload W.here W.hx rfl (hb W.hby hd) hl r
theorem g_dloadN (W : Wk Z y bytes ml ret n0 p l e R s m args below meth c T kc ks) {i : Fin 4} {v : UInt64} (hd : decode bytes pc = .ok (.dload_n i, 1)) (hpc : pc + 1 = pc') (hl : ls[i.val]? = some (.val (.double v))) (K : Goes p e below E (T.setTop (mkF m pc' ls (.double v :: st)))) : Goes p e below E (T.setTop (mkF m pc ls st)) := by
  subst hpc; exact K.back fun _ r => XS.dloadN W.here W.hx rfl (hb W.hby hd) hl r
theorem g_dload (W : Wk Z y bytes ml ret n0 p l e R s m args below meth c T kc ks) {i : Nat} {v : UInt64} (hd : decode bytes pc = .ok (.dload i, 2)) (hpc : pc + 2 = pc') (hl : ls[i]? = some (.val (.double v))) (K : Goes p e below E (T.setTop (mkF m pc' ls (.double v :: st)))) : Goes p e below E (T.setTop (mkF m pc ls st)) := by
  subst hpc; exact K.back fun _ r => XS.dload W.here W.hx rfl (hb W.hby hd) hl r
theorem g_floadN (W : Wk Z y bytes ml ret n0 p l e R s m args below meth c T kc ks) {i : Fin 4} {v : UInt32} (hd : decode bytes pc = .ok (.fload_n i, 1)) (hpc : pc + 1 = pc') (hl : ls[i.val]? = some (.val (.float v))) (K : Goes p e below E (T.setTop (mkF m pc' ls (.float v :: st)))) : Goes p e below E (T.setTop (mkF m pc ls st)) := by
  subst hpc; exact K.back fun _ r => XS.floadN W.here W.hx rfl (hb W.hby hd) hl r
theorem g_fload (W : Wk Z y bytes ml ret n0 p l e R s m args below meth c T kc ks) {i : Nat} {v : UInt32} (hd : decode bytes pc = .ok (.fload i, 2)) (hpc : pc + 2 = pc') (hl : ls[i]? = some (.val (.float v))) (K : Goes p e below E (T.setTop (mkF m pc' ls (.float v :: st)))) : Goes p e below E (T.setTop (mkF m pc ls st)) := by
  subst hpc; exact K.back fun _ r => XS.fload W.here W.hx rfl (hb W.hby hd) hl r
theorem g_aloadN (W : Wk Z y bytes ml ret n0 p l e R s m args below meth c T kc ks) {i : Fin 4} {v : Value} (hd : decode bytes pc = .ok (.aload_n i, 1)) (hpc : pc + 1 = pc') (hl : ls[i.val]? = some (.val v)) (hv : v.isRef = true) (K : Goes p e below E (T.setTop (mkF m pc' ls (v :: st)))) : Goes p e below E (T.setTop (mkF m pc ls st)) := by
  subst hpc; exact K.back fun _ r => XS.aloadN W.here W.hx rfl (hb W.hby hd) hl hv r
theorem g_aload (W : Wk Z y bytes ml ret n0 p l e R s m args below meth c T kc ks) {i : Nat} {v : Value} (hd : decode bytes pc = .ok (.aload i, 2)) (hpc : pc + 2 = pc') (hl : ls[i]? = some (.val v)) (hv : v.isRef = true) (K : Goes p e below E (T.setTop (mkF m pc' ls (v :: st)))) : Goes p e below E (T.setTop (mkF m pc ls st)) := by
  subst hpc; exact K.back fun _ r => XS.aload W.here W.hx rfl (hb W.hby hd) hl hv r
theorem g_istoreN (W : Wk Z y bytes ml ret n0 p l e R s m args below meth c T kc ks) {i : Fin 4} {v : Int32} {ls' : Array Slot} (hd : decode bytes pc = .ok (.istore_n i, 1)) (hpc : pc + 1 = pc') (hl : storeLocals ls i.val (.int v) = some ls') (K : Goes p e below E (T.setTop (mkF m pc' ls' st))) : Goes p e below E (T.setTop (mkF m pc ls (.int v :: st))) := by
  subst hpc; exact K.back fun _ r => XS.istoreN W.here W.hx rfl (hb W.hby hd) rfl hl r
theorem g_istore (W : Wk Z y bytes ml ret n0 p l e R s m args below meth c T kc ks) {i : Nat} {v : Int32} {ls' : Array Slot} (hd : decode bytes pc = .ok (.istore i, 2)) (hpc : pc + 2 = pc') (hl : storeLocals ls i (.int v) = some ls') (K : Goes p e below E (T.setTop (mkF m pc' ls' st))) : Goes p e below E (T.setTop (mkF m pc ls (.int v :: st))) := by
  subst hpc; exact K.back fun _ r => XS.istore W.here W.hx rfl (hb W.hby hd) rfl hl r
theorem g_lstoreN (W : Wk Z y bytes ml ret n0 p l e R s m args below meth c T kc ks) {i : Fin 4} {v : Int64} {ls' : Array Slot} (hd : decode bytes pc = .ok (.lstore_n i, 1)) (hpc : pc + 1 = pc') (hl : storeLocals ls i.val (.long v) = some ls') (K : Goes p e below E (T.setTop (mkF m pc' ls' st))) : Goes p e below E (T.setTop (mkF m pc ls (.long v :: st))) := by
  subst hpc; exact K.back fun _ r => XT.lstoreN W.here W.hx rfl (hb W.hby hd) rfl hl r
theorem g_lstore (W : Wk Z y bytes ml ret n0 p l e R s m args below meth c T kc ks) {i : Nat} {v : Int64} {ls' : Array Slot} (hd : decode bytes pc = .ok (.lstore i, 2)) (hpc : pc + 2 = pc') (hl : storeLocals ls i (.long v) = some ls') (K : Goes p e below E (T.setTop (mkF m pc' ls' st))) : Goes p e below E (T.setTop (mkF m pc ls (.long v :: st))) := by
  subst hpc; exact K.back fun _ r => XT.lstore W.here W.hx rfl (hb W.hby hd) rfl hl r
theorem g_dstoreN (W : Wk Z y bytes ml ret n0 p l e R s m args below meth c T kc ks) {i : Fin 4} {v : UInt64} {ls' : Array Slot} (hd : decode bytes pc = .ok (.dstore_n i, 1)) (hpc : pc + 1 = pc') (hl : storeLocals ls i.val (.double v) = some ls') (K : Goes p e below E (T.setTop (mkF m pc' ls' st))) : Goes p e below E (T.setTop (mkF m pc ls (.double v :: st))) := by
  subst hpc; exact K.back fun _ r => XS.dstoreN W.here W.hx rfl (hb W.hby hd) rfl hl r
theorem g_dstore (W : Wk Z y bytes ml ret n0 p l e R s m args below meth c T kc ks) {i : Nat} {v : UInt64} {ls' : Array Slot} (hd : decode bytes pc = .ok (.dstore i, 2)) (hpc : pc + 2 = pc') (hl : storeLocals ls i (.double v) = some ls') (K : Goes p e below E (T.setTop (mkF m pc' ls' st))) : Goes p e below E (T.setTop (mkF m pc ls (.double v :: st))) := by
  subst hpc; exact K.back fun _ r => XS.dstore W.here W.hx rfl (hb W.hby hd) rfl hl r
theorem g_fstoreN (W : Wk Z y bytes ml ret n0 p l e R s m args below meth c T kc ks) {i : Fin 4} {v : UInt32} {ls' : Array Slot} (hd : decode bytes pc = .ok (.fstore_n i, 1)) (hpc : pc + 1 = pc') (hl : storeLocals ls i.val (.float v) = some ls') (K : Goes p e below E (T.setTop (mkF m pc' ls' st))) : Goes p e below E (T.setTop (mkF m pc ls (.float v :: st))) := by
  subst hpc; exact K.back fun _ r => XS.fstoreN W.here W.hx rfl (hb W.hby hd) rfl hl r
theorem g_fstore (W : Wk Z y bytes ml ret n0 p l e R s m args below meth c T kc ks) {i : Nat} {v : UInt32} {ls' : Array Slot} (hd : decode bytes pc = .ok (.fstore i, 2)) (hpc : pc + 2 = pc') (hl : storeLocals ls i (.float v) = some ls') (K : Goes p e below E (T.setTop (mkF m pc' ls' st))) : Goes p e below E (T.setTop (mkF m pc ls (.float v :: st))) := by
  subst hpc; exact K.back fun _ r => XS.fstore W.here W.hx rfl (hb W.hby hd) rfl hl r
theorem g_astoreN (W : Wk Z y bytes ml ret n0 p l e R s m args below meth c T kc ks) {i : Fin 4} {v : Value} {ls' : Array Slot} (hd : decode bytes pc = .ok (.astore_n i, 1)) (hpc : pc + 1 = pc') (hv : v.isRef = true) (hl : storeLocals ls i.val v = some ls') (K : Goes p e below E (T.setTop (mkF m pc' ls' st))) : Goes p e below E (T.setTop (mkF m pc ls (v :: st))) := by
  subst hpc; exact K.back fun _ r => XS.astoreN W.here W.hx rfl (hb W.hby hd) rfl hv hl r
theorem g_astore (W : Wk Z y bytes ml ret n0 p l e R s m args below meth c T kc ks) {i : Nat} {v : Value} {ls' : Array Slot} (hd : decode bytes pc = .ok (.astore i, 2)) (hpc : pc + 2 = pc') (hv : v.isRef = true) (hl : storeLocals ls i v = some ls') (K : Goes p e below E (T.setTop (mkF m pc' ls' st))) : Goes p e below E (T.setTop (mkF m pc ls (v :: st))) := by
  subst hpc; exact K.back fun _ r => XS.astore W.here W.hx rfl (hb W.hby hd) rfl hv hl r
theorem g_iconst (W : Wk Z y bytes ml ret n0 p l e R s m args below meth c T kc ks) {i : Int} {v : Int32} (hd : decode bytes pc = .ok (.iconst i, 1)) (hpc : pc + 1 = pc') (hv : Int32.ofInt i = v) (K : Goes p e below E (T.setTop (mkF m pc' ls (.int v :: st)))) : Goes p e below E (T.setTop (mkF m pc ls st)) := by
  subst hpc; exact K.back fun _ r => XS.iconst W.here W.hx rfl (hb W.hby hd) (by rw [hv]; exact r)
theorem g_bipush (W : Wk Z y bytes ml ret n0 p l e R s m args below meth c T kc ks) {i : Int} {v : Int32} (hd : decode bytes pc = .ok (.bipush i, 2)) (hpc : pc + 2 = pc') (hv : (Int8.ofInt i).toInt32 = v) (K : Goes p e below E (T.setTop (mkF m pc' ls (.int v :: st)))) : Goes p e below E (T.setTop (mkF m pc ls st)) := by
  subst hpc; exact K.back fun _ r => XS.bipush W.here W.hx rfl (hb W.hby hd) (by rw [hv]; exact r)
theorem g_sipush (W : Wk Z y bytes ml ret n0 p l e R s m args below meth c T kc ks) {i : Int} {v : Int32} (hd : decode bytes pc = .ok (.sipush i, 3)) (hpc : pc + 3 = pc') (hv : (Int16.ofInt i).toInt32 = v) (K : Goes p e below E (T.setTop (mkF m pc' ls (.int v :: st)))) : Goes p e below E (T.setTop (mkF m pc ls st)) := by
  subst hpc; exact K.back fun _ r => XS.sipush W.here W.hx rfl (hb W.hby hd) (by rw [hv]; exact r)
theorem g_lconst (W : Wk Z y bytes ml ret n0 p l e R s m args below meth c T kc ks) {i : Fin 2} {v : Int64} (hd : decode bytes pc = .ok (.lconst i, 1)) (hpc : pc + 1 = pc') (hv : Int64.ofNat i = v) (K : Goes p e below E (T.setTop (mkF m pc' ls (.long v :: st)))) : Goes p e below E (T.setTop (mkF m pc ls st)) := by
  subst hpc; exact K.back fun _ r => XT.lconst W.here W.hx rfl (hb W.hby hd) (by rw [hv]; exact r)
theorem g_dconst0 (W : Wk Z y bytes ml ret n0 p l e R s m args below meth c T kc ks)  (hd : decode bytes pc = .ok (.dconst 0, 1)) (hpc : pc + 1 = pc')  (K : Goes p e below E (T.setTop (mkF m pc' ls (.double 0 :: st)))) : Goes p e below E (T.setTop (mkF m pc ls st)) := by
  subst hpc; exact K.back fun _ r => XS.dconst0 W.here W.hx rfl (hb W.hby hd) rfl r
theorem g_dconst1 (W : Wk Z y bytes ml ret n0 p l e R s m args below meth c T kc ks)  (hd : decode bytes pc = .ok (.dconst 1, 1)) (hpc : pc + 1 = pc')  (K : Goes p e below E (T.setTop (mkF m pc' ls (.double 4607182418800017408 :: st)))) : Goes p e below E (T.setTop (mkF m pc ls st)) := by
  subst hpc; exact K.back fun _ r => XS.dconst1 W.here W.hx rfl (hb W.hby hd) rfl r
theorem g_aconst_null (W : Wk Z y bytes ml ret n0 p l e R s m args below meth c T kc ks)  (hd : decode bytes pc = .ok (.aconst_null, 1)) (hpc : pc + 1 = pc')  (K : Goes p e below E (T.setTop (mkF m pc' ls (.null :: st)))) : Goes p e below E (T.setTop (mkF m pc ls st)) := by
  subst hpc; exact K.back fun _ r => XS.aconstNull W.here W.hx rfl (hb W.hby hd) r
theorem g_iadd (W : Wk Z y bytes ml ret n0 p l e R s m args below meth c T kc ks) {x y0 v : Int32} (hd : decode bytes pc = .ok (.iadd, 1)) (hpc : pc + 1 = pc') (hv : x + y0 = v) (K : Goes p e below E (T.setTop (mkF m pc' ls (.int v :: st)))) : Goes p e below E (T.setTop (mkF m pc ls (.int y0 :: .int x :: st))) := by
  subst hpc; exact K.back fun _ r => XS.iadd W.here W.hx rfl (hb W.hby hd) rfl (by rw [hv]; exact r)
theorem g_isub (W : Wk Z y bytes ml ret n0 p l e R s m args below meth c T kc ks) {x y0 v : Int32} (hd : decode bytes pc = .ok (.isub, 1)) (hpc : pc + 1 = pc') (hv : x - y0 = v) (K : Goes p e below E (T.setTop (mkF m pc' ls (.int v :: st)))) : Goes p e below E (T.setTop (mkF m pc ls (.int y0 :: .int x :: st))) := by
  subst hpc; exact K.back fun _ r => XS.isub W.here W.hx rfl (hb W.hby hd) rfl (by rw [hv]; exact r)
theorem g_iand (W : Wk Z y bytes ml ret n0 p l e R s m args below meth c T kc ks) {x y0 v : Int32} (hd : decode bytes pc = .ok (.iand, 1)) (hpc : pc + 1 = pc') (hv : x &&& y0 = v) (K : Goes p e below E (T.setTop (mkF m pc' ls (.int v :: st)))) : Goes p e below E (T.setTop (mkF m pc ls (.int y0 :: .int x :: st))) := by
  subst hpc; exact K.back fun _ r => XS.iand W.here W.hx rfl (hb W.hby hd) rfl (by rw [hv]; exact r)
theorem g_imul (W : Wk Z y bytes ml ret n0 p l e R s m args below meth c T kc ks) {x y0 v : Int32} (hd : decode bytes pc = .ok (.imul, 1)) (hpc : pc + 1 = pc') (hv : x * y0 = v) (K : Goes p e below E (T.setTop (mkF m pc' ls (.int v :: st)))) : Goes p e below E (T.setTop (mkF m pc ls (.int y0 :: .int x :: st))) := by
  subst hpc; exact K.back fun _ r => XS.imul W.here W.hx rfl (hb W.hby hd) rfl (by rw [hv]; exact r)
theorem g_ixor (W : Wk Z y bytes ml ret n0 p l e R s m args below meth c T kc ks) {x y0 v : Int32} (hd : decode bytes pc = .ok (.ixor, 1)) (hpc : pc + 1 = pc') (hv : x ^^^ y0 = v) (K : Goes p e below E (T.setTop (mkF m pc' ls (.int v :: st)))) : Goes p e below E (T.setTop (mkF m pc ls (.int y0 :: .int x :: st))) := by
  subst hpc; exact K.back fun _ r => XT.ixor W.here W.hx rfl (hb W.hby hd) rfl (by rw [hv]; exact r)
theorem g_ior (W : Wk Z y bytes ml ret n0 p l e R s m args below meth c T kc ks) {x y0 v : Int32} (hd : decode bytes pc = .ok (.ior, 1)) (hpc : pc + 1 = pc') (hv : x ||| y0 = v) (K : Goes p e below E (T.setTop (mkF m pc' ls (.int v :: st)))) : Goes p e below E (T.setTop (mkF m pc ls (.int y0 :: .int x :: st))) := by
  subst hpc; exact K.back fun _ r => XT.ior W.here W.hx rfl (hb W.hby hd) rfl (by rw [hv]; exact r)
theorem g_ishl (W : Wk Z y bytes ml ret n0 p l e R s m args below meth c T kc ks) {x y0 v : Int32} (hd : decode bytes pc = .ok (.ishl, 1)) (hpc : pc + 1 = pc') (hv : x <<< (y0 &&& 31) = v) (K : Goes p e below E (T.setTop (mkF m pc' ls (.int v :: st)))) : Goes p e below E (T.setTop (mkF m pc ls (.int y0 :: .int x :: st))) := by
  subst hpc; exact K.back fun _ r => XT.ishl W.here W.hx rfl (hb W.hby hd) rfl (by rw [hv]; exact r)
theorem g_ishr (W : Wk Z y bytes ml ret n0 p l e R s m args below meth c T kc ks) {x y0 v : Int32} (hd : decode bytes pc = .ok (.ishr, 1)) (hpc : pc + 1 = pc') (hv : x >>> (y0 &&& 31) = v) (K : Goes p e below E (T.setTop (mkF m pc' ls (.int v :: st)))) : Goes p e below E (T.setTop (mkF m pc ls (.int y0 :: .int x :: st))) := by
  subst hpc; exact K.back fun _ r => XT.ishr W.here W.hx rfl (hb W.hby hd) rfl (by rw [hv]; exact r)
theorem g_iushr (W : Wk Z y bytes ml ret n0 p l e R s m args below meth c T kc ks) {x y0 v : Int32} (hd : decode bytes pc = .ok (.iushr, 1)) (hpc : pc + 1 = pc') (hv : XT.ushr x y0 = v) (K : Goes p e below E (T.setTop (mkF m pc' ls (.int v :: st)))) : Goes p e below E (T.setTop (mkF m pc ls (.int y0 :: .int x :: st))) := by
  subst hpc; exact K.back fun _ r => XT.iushr W.here W.hx rfl (hb W.hby hd) rfl (by rw [hv]; exact r)
theorem g_ineg (W : Wk Z y bytes ml ret n0 p l e R s m args below meth c T kc ks) {x v : Int32} (hd : decode bytes pc = .ok (.ineg, 1)) (hpc : pc + 1 = pc') (hv : -x = v) (K : Goes p e below E (T.setTop (mkF m pc' ls (.int v :: st)))) : Goes p e below E (T.setTop (mkF m pc ls (.int x :: st))) := by
  subst hpc; exact K.back fun _ r => XS.ineg W.here W.hx rfl (hb W.hby hd) rfl (by rw [hv]; exact r)
theorem g_ladd (W : Wk Z y bytes ml ret n0 p l e R s m args below meth c T kc ks) {x y0 v : Int64} (hd : decode bytes pc = .ok (.ladd, 1)) (hpc : pc + 1 = pc') (hv : x + y0 = v) (K : Goes p e below E (T.setTop (mkF m pc' ls (.long v :: st)))) : Goes p e below E (T.setTop (mkF m pc ls (.long y0 :: .long x :: st))) := by
  subst hpc; exact K.back fun _ r => XT.ladd W.here W.hx rfl (hb W.hby hd) rfl (by rw [hv]; exact r)
theorem g_lsub (W : Wk Z y bytes ml ret n0 p l e R s m args below meth c T kc ks) {x y0 v : Int64} (hd : decode bytes pc = .ok (.lsub, 1)) (hpc : pc + 1 = pc') (hv : x - y0 = v) (K : Goes p e below E (T.setTop (mkF m pc' ls (.long v :: st)))) : Goes p e below E (T.setTop (mkF m pc ls (.long y0 :: .long x :: st))) := by
  subst hpc; exact K.back fun _ r => XT.lsub W.here W.hx rfl (hb W.hby hd) rfl (by rw [hv]; exact r)
theorem g_lmul (W : Wk Z y bytes ml ret n0 p l e R s m args below meth c T kc ks) {x y0 v : Int64} (hd : decode bytes pc = .ok (.lmul, 1)) (hpc : pc + 1 = pc') (hv : x * y0 = v) (K : Goes p e below E (T.setTop (mkF m pc' ls (.long v :: st)))) : Goes p e below E (T.setTop (mkF m pc ls (.long y0 :: .long x :: st))) := by
  subst hpc; exact K.back fun _ r => XT.lmul W.here W.hx rfl (hb W.hby hd) rfl (by rw [hv]; exact r)
theorem g_land (W : Wk Z y bytes ml ret n0 p l e R s m args below meth c T kc ks) {x y0 v : Int64} (hd : decode bytes pc = .ok (.land, 1)) (hpc : pc + 1 = pc') (hv : x &&& y0 = v) (K : Goes p e below E (T.setTop (mkF m pc' ls (.long v :: st)))) : Goes p e below E (T.setTop (mkF m pc ls (.long y0 :: .long x :: st))) := by
  subst hpc; exact K.back fun _ r => XT.land W.here W.hx rfl (hb W.hby hd) rfl (by rw [hv]; exact r)
theorem g_lor (W : Wk Z y bytes ml ret n0 p l e R s m args below meth c T kc ks) {x y0 v : Int64} (hd : decode bytes pc = .ok (.lor, 1)) (hpc : pc + 1 = pc') (hv : x ||| y0 = v) (K : Goes p e below E (T.setTop (mkF m pc' ls (.long v :: st)))) : Goes p e below E (T.setTop (mkF m pc ls (.long y0 :: .long x :: st))) := by
  subst hpc; exact K.back fun _ r => XT.lor W.here W.hx rfl (hb W.hby hd) rfl (by rw [hv]; exact r)
theorem g_lxor (W : Wk Z y bytes ml ret n0 p l e R s m args below meth c T kc ks) {x y0 v : Int64} (hd : decode bytes pc = .ok (.lxor, 1)) (hpc : pc + 1 = pc') (hv : x ^^^ y0 = v) (K : Goes p e below E (T.setTop (mkF m pc' ls (.long v :: st)))) : Goes p e below E (T.setTop (mkF m pc ls (.long y0 :: .long x :: st))) := by
  subst hpc; exact K.back fun _ r => XT.lxor W.here W.hx rfl (hb W.hby hd) rfl (by rw [hv]; exact r)
theorem g_lneg (W : Wk Z y bytes ml ret n0 p l e R s m args below meth c T kc ks) {x v : Int64} (hd : decode bytes pc = .ok (.lneg, 1)) (hpc : pc + 1 = pc') (hv : -x = v) (K : Goes p e below E (T.setTop (mkF m pc' ls (.long v :: st)))) : Goes p e below E (T.setTop (mkF m pc ls (.long x :: st))) := by
  subst hpc; exact K.back fun _ r => XT.lneg W.here W.hx rfl (hb W.hby hd) rfl (by rw [hv]; exact r)
theorem g_lushr (W : Wk Z y bytes ml ret n0 p l e R s m args below meth c T kc ks) {x v : Int64} {y0 : Int32} (hd : decode bytes pc = .ok (.lushr, 1)) (hpc : pc + 1 = pc') (hv : XT.ushrL x y0 = v) (K : Goes p e below E (T.setTop (mkF m pc' ls (.long v :: st)))) : Goes p e below E (T.setTop (mkF m pc ls (.int y0 :: .long x :: st))) := by
  subst hpc; exact K.back fun _ r => XT.lushr W.here W.hx rfl (hb W.hby hd) rfl (by rw [hv]; exact r)
theorem g_lcmp (W : Wk Z y bytes ml ret n0 p l e R s m args below meth c T kc ks) {x y0 : Int64} {v : Int32} (hd : decode bytes pc = .ok (.lcmp, 1)) (hpc : pc + 1 = pc') (hv : XT.cmpL x y0 = v) (K : Goes p e below E (T.setTop (mkF m pc' ls (.int v :: st)))) : Goes p e below E (T.setTop (mkF m pc ls (.long y0 :: .long x :: st))) := by
  subst hpc; exact K.back fun _ r => XT.lcmp W.here W.hx rfl (hb W.hby hd) rfl (by rw [hv]; exact r)
theorem g_i2l (W : Wk Z y bytes ml ret n0 p l e R s m args below meth c T kc ks) {x : Int32} {v : Int64} (hd : decode bytes pc = .ok (.i2l, 1)) (hpc : pc + 1 = pc') (hv : x.toInt64 = v) (K : Goes p e below E (T.setTop (mkF m pc' ls (.long v :: st)))) : Goes p e below E (T.setTop (mkF m pc ls (.int x :: st))) := by
  subst hpc; exact K.back fun _ r => XT.i2l W.here W.hx rfl (hb W.hby hd) rfl (by rw [hv]; exact r)
theorem g_l2i (W : Wk Z y bytes ml ret n0 p l e R s m args below meth c T kc ks) {x : Int64} {v : Int32} (hd : decode bytes pc = .ok (.l2i, 1)) (hpc : pc + 1 = pc') (hv : x.toInt32 = v) (K : Goes p e below E (T.setTop (mkF m pc' ls (.int v :: st)))) : Goes p e below E (T.setTop (mkF m pc ls (.long x :: st))) := by
  subst hpc; exact K.back fun _ r => XT.l2i W.here W.hx rfl (hb W.hby hd) rfl (by rw [hv]; exact r)
theorem g_i2d (W : Wk Z y bytes ml ret n0 p l e R s m args below meth c T kc ks) {x : Int32} {v : UInt64} (hd : decode bytes pc = .ok (.i2d, 1)) (hpc : pc + 1 = pc') (hv : FP.i2d x = v) (K : Goes p e below E (T.setTop (mkF m pc' ls (.double v :: st)))) : Goes p e below E (T.setTop (mkF m pc ls (.int x :: st))) := by
  subst hpc; exact K.back fun _ r => XS.i2dS W.here W.hx rfl (hb W.hby hd) rfl hv r
theorem g_l2d (W : Wk Z y bytes ml ret n0 p l e R s m args below meth c T kc ks) {x : Int64} {v : UInt64} (hd : decode bytes pc = .ok (.l2d, 1)) (hpc : pc + 1 = pc') (hv : FP.l2d x = v) (K : Goes p e below E (T.setTop (mkF m pc' ls (.double v :: st)))) : Goes p e below E (T.setTop (mkF m pc ls (.long x :: st))) := by
  subst hpc; exact K.back fun _ r => XS.l2dS W.here W.hx rfl (hb W.hby hd) rfl hv r
theorem g_dneg (W : Wk Z y bytes ml ret n0 p l e R s m args below meth c T kc ks) {x v : UInt64} (hd : decode bytes pc = .ok (.dneg, 1)) (hpc : pc + 1 = pc') (hv : FP.dneg x = v) (K : Goes p e below E (T.setTop (mkF m pc' ls (.double v :: st)))) : Goes p e below E (T.setTop (mkF m pc ls (.double x :: st))) := by
  subst hpc; exact K.back fun _ r => XS.dnegS W.here W.hx rfl (hb W.hby hd) rfl hv r
theorem g_dcmp (W : Wk Z y bytes ml ret n0 p l e R s m args below meth c T kc ks) {o : CmpOp} {x y0 : UInt64} {v : Int32} (hd : decode bytes pc = .ok (.dcmp o, 1)) (hpc : pc + 1 = pc') (hv : cmpValue (FP.dcmp x y0) o = v) (K : Goes p e below E (T.setTop (mkF m pc' ls (.int v :: st)))) : Goes p e below E (T.setTop (mkF m pc ls (.double y0 :: .double x :: st))) := by
  subst hpc; exact K.back fun _ r => XS.dcmpS W.here W.hx rfl (hb W.hby hd) rfl hv r
theorem g_dadd (W : Wk Z y bytes ml ret n0 p l e R s m args below meth c T kc ks) {x y0 v : UInt64} (hd : decode bytes pc = .ok (.dadd, 1)) (hpc : pc + 1 = pc') (hv : FP.dadd x y0 = v) (hn : NoNaN64 v) (K : Goes p e below E (T.setTop (mkF m pc' ls (.double v :: st)))) : Goes p e below E (T.setTop (mkF m pc ls (.double y0 :: .double x :: st))) := by
  subst hpc; exact K.back fun _ r => XS.daddS W.here W.hx rfl (hb W.hby hd) rfl (by rw [hv]; exact hn) hv r
theorem g_dsub (W : Wk Z y bytes ml ret n0 p l e R s m args below meth c T kc ks) {x y0 v : UInt64} (hd : decode bytes pc = .ok (.dsub, 1)) (hpc : pc + 1 = pc') (hv : FP.dsub x y0 = v) (hn : NoNaN64 v) (K : Goes p e below E (T.setTop (mkF m pc' ls (.double v :: st)))) : Goes p e below E (T.setTop (mkF m pc ls (.double y0 :: .double x :: st))) := by
  subst hpc; exact K.back fun _ r => XS.dsubS W.here W.hx rfl (hb W.hby hd) rfl (by rw [hv]; exact hn) hv r
theorem g_dmul (W : Wk Z y bytes ml ret n0 p l e R s m args below meth c T kc ks) {x y0 v : UInt64} (hd : decode bytes pc = .ok (.dmul, 1)) (hpc : pc + 1 = pc') (hv : FP.dmul x y0 = v) (hn : NoNaN64 v) (K : Goes p e below E (T.setTop (mkF m pc' ls (.double v :: st)))) : Goes p e below E (T.setTop (mkF m pc ls (.double y0 :: .double x :: st))) := by
  subst hpc; exact K.back fun _ r => XS.dmulS W.here W.hx rfl (hb W.hby hd) rfl (by rw [hv]; exact hn) hv r
theorem g_ddiv (W : Wk Z y bytes ml ret n0 p l e R s m args below meth c T kc ks) {x y0 v : UInt64} (hd : decode bytes pc = .ok (.ddiv, 1)) (hpc : pc + 1 = pc') (hv : FP.ddiv x y0 = v) (hn : NoNaN64 v) (K : Goes p e below E (T.setTop (mkF m pc' ls (.double v :: st)))) : Goes p e below E (T.setTop (mkF m pc ls (.double y0 :: .double x :: st))) := by
  subst hpc; exact K.back fun _ r => XS.ddivS W.here W.hx rfl (hb W.hby hd) rfl (by rw [hv]; exact hn) hv r
theorem g_dup (W : Wk Z y bytes ml ret n0 p l e R s m args below meth c T kc ks) {v : Value} (hd : decode bytes pc = .ok (.dup, 1)) (hpc : pc + 1 = pc') (hc : v.category = 1) (K : Goes p e below E (T.setTop (mkF m pc' ls (v :: v :: st)))) : Goes p e below E (T.setTop (mkF m pc ls (v :: st))) := by
  subst hpc; exact K.back fun _ r => XS.dup W.here W.hx rfl (hb W.hby hd) rfl hc r
theorem g_pop (W : Wk Z y bytes ml ret n0 p l e R s m args below meth c T kc ks) {v : Value} (hd : decode bytes pc = .ok (.pop, 1)) (hpc : pc + 1 = pc') (hc : v.category = 1) (K : Goes p e below E (T.setTop (mkF m pc' ls st))) : Goes p e below E (T.setTop (mkF m pc ls (v :: st))) := by
  subst hpc; exact K.back fun _ r => XT.pop W.here W.hx rfl (hb W.hby hd) rfl hc r
theorem g_dup_x1 (W : Wk Z y bytes ml ret n0 p l e R s m args below meth c T kc ks) {v w : Value} (hd : decode bytes pc = .ok (.dup_x1, 1)) (hpc : pc + 1 = pc') (hc : v.category = 1) (hc2 : w.category = 1) (K : Goes p e below E (T.setTop (mkF m pc' ls (v :: w :: v :: st)))) : Goes p e below E (T.setTop (mkF m pc ls (v :: w :: st))) := by
  subst hpc; exact K.back fun _ r => XT.dupX1 W.here W.hx rfl (hb W.hby hd) rfl hc hc2 r
theorem g_dup2 (W : Wk Z y bytes ml ret n0 p l e R s m args below meth c T kc ks) {v w : Value} (hd : decode bytes pc = .ok (.dup2, 1)) (hpc : pc + 1 = pc') (hc : v.category = 1) (hc2 : w.category = 1) (K : Goes p e below E (T.setTop (mkF m pc' ls (v :: w :: v :: w :: st)))) : Goes p e below E (T.setTop (mkF m pc ls (v :: w :: st))) := by
  subst hpc; exact K.back fun _ r => XT.dup2 W.here W.hx rfl (hb W.hby hd) rfl hc hc2 r
theorem g_iinc (W : Wk Z y bytes ml ret n0 p l e R s m args below meth c T kc ks) {i : Nat} {d : Int} {x v : Int32} {ls' : Array Slot} (hd : decode bytes pc = .ok (.iinc i d, 3)) (hpc : pc + 3 = pc') (h1 : ls[i]? = some (.val (.int x))) (hv : x + Int32.ofInt d = v) (hl : storeLocals ls i (.int v) = some ls') (K : Goes p e below E (T.setTop (mkF m pc' ls' st))) : Goes p e below E (T.setTop (mkF m pc ls st)) := by
  subst hpc; exact K.back fun _ r => XS.iinc W.here W.hx rfl (hb W.hby hd) h1 (by rw [hv]; exact hl) r
theorem g_idiv (W : Wk Z y bytes ml ret n0 p l e R s m args below meth c T kc ks) {x y0 v : Int32} (hd : decode bytes pc = .ok (.idiv, 1)) (hpc : pc + 1 = pc') (h0 : y0 ≠ 0) (hv : x / y0 = v) (K : Goes p e below E (T.setTop (mkF m pc' ls (.int v :: st)))) : Goes p e below E (T.setTop (mkF m pc ls (.int y0 :: .int x :: st))) := by
  subst hpc; exact K.back fun _ r => XS.idiv W.here W.hx rfl (hb W.hby hd) rfl h0 (by rw [hv]; exact r)
theorem g_irem (W : Wk Z y bytes ml ret n0 p l e R s m args below meth c T kc ks) {x y0 v : Int32} (hd : decode bytes pc = .ok (.irem, 1)) (hpc : pc + 1 = pc') (h0 : y0 ≠ 0) (hv : x - (x / y0) * y0 = v) (K : Goes p e below E (T.setTop (mkF m pc' ls (.int v :: st)))) : Goes p e below E (T.setTop (mkF m pc ls (.int y0 :: .int x :: st))) := by
  subst hpc; exact K.back fun _ r => XS.irem W.here W.hx rfl (hb W.hby hd) rfl h0 (by rw [hv]; exact r)
theorem g_ldiv (W : Wk Z y bytes ml ret n0 p l e R s m args below meth c T kc ks) {x y0 v : Int64} (hd : decode bytes pc = .ok (.ldiv, 1)) (hpc : pc + 1 = pc') (h0 : y0 ≠ 0) (hv : x / y0 = v) (K : Goes p e below E (T.setTop (mkF m pc' ls (.long v :: st)))) : Goes p e below E (T.setTop (mkF m pc ls (.long y0 :: .long x :: st))) := by
  subst hpc; exact K.back fun _ r => XT.ldiv W.here W.hx rfl (hb W.hby hd) rfl h0 (by rw [hv]; exact r)
theorem g_lrem (W : Wk Z y bytes ml ret n0 p l e R s m args below meth c T kc ks) {x y0 v : Int64} (hd : decode bytes pc = .ok (.lrem, 1)) (hpc : pc + 1 = pc') (h0 : y0 ≠ 0) (hv : x - (x / y0) * y0 = v) (K : Goes p e below E (T.setTop (mkF m pc' ls (.long v :: st)))) : Goes p e below E (T.setTop (mkF m pc ls (.long y0 :: .long x :: st))) := by
  subst hpc; exact K.back fun _ r => XT.lrem W.here W.hx rfl (hb W.hby hd) rfl h0 (by rw [hv]; exact r)
theorem g_lshl (W : Wk Z y bytes ml ret n0 p l e R s m args below meth c T kc ks) {x v : Int64} {y0 : Int32} (hd : decode bytes pc = .ok (.lshl, 1)) (hpc : pc + 1 = pc') (hv : x <<< (y0.toInt64 &&& 63) = v) (K : Goes p e below E (T.setTop (mkF m pc' ls (.long v :: st)))) : Goes p e below E (T.setTop (mkF m pc ls (.int y0 :: .long x :: st))) := by
  subst hpc; exact K.back fun _ r => XT.lshl W.here W.hx rfl (hb W.hby hd) rfl (by rw [hv]; exact r)
theorem g_lshr (W : Wk Z y bytes ml ret n0 p l e R s m args below meth c T kc ks) {x v : Int64} {y0 : Int32} (hd : decode bytes pc = .ok (.lshr, 1)) (hpc : pc + 1 = pc') (hv : x >>> (y0.toInt64 &&& 63) = v) (K : Goes p e below E (T.setTop (mkF m pc' ls (.long v :: st)))) : Goes p e below E (T.setTop (mkF m pc ls (.int y0 :: .long x :: st))) := by
  subst hpc; exact K.back fun _ r => XT.lshr W.here W.hx rfl (hb W.hby hd) rfl (by rw [hv]; exact r)
def cP : ClassFile.Cond → Int32 → Int32 → Prop
  | .eq, x, y => x = y
  | .ne, x, y => ¬ x = y
  | .lt, x, y => x < y
  | .ge, x, y => ¬ x < y
  | .gt, x, y => y < x
  | .le, x, y => ¬ y < x
theorem cP_yes {cd : ClassFile.Cond} {x y : Int32} (h : cP cd x y) : if_icmp.holds cd x y = true := by
  cases cd
  · exact (teq h).1
  · exact (feq h).2
  · exact (tlt h).1
  · exact (flt h).2.1
  · exact (tlt h).2.2.1
  · exact (flt h).2.2.2
theorem cP_no {cd : ClassFile.Cond} {x y : Int32} (h : ¬ cP cd x y) : if_icmp.holds cd x y = false := by
  cases cd
  · exact (feq h).1
  · exact (teq (Classical.not_not.mp h)).2
  · exact (flt h).1
  · exact (tlt (Classical.not_not.mp h)).2.1
  · exact (flt h).2.2.1
  · exact (tlt (Classical.not_not.mp h)).2.2.2
theorem g_goto (W : Wk Z y bytes ml ret n0 p l e R s m args below meth c T kc ks) {o : Int} (hd : decode bytes pc = .ok (.goto o, 3)) (hpc : (pc : Int) + o = (pc' : Nat)) (K : Goes p e below E (T.setTop (mkF m pc' ls st))) : Goes p e below E (T.setTop (mkF m pc ls st)) :=
  K.back fun _ r => XS.goto W.here W.hx rfl (pc0 := pc) (pc' := pc') rfl (hb W.hby hd) (by omega) (by omega) r
theorem g_if (W : Wk Z y bytes ml ret n0 p l e R s m args below meth c T kc ks) {cd : ClassFile.Cond} {x : Int32} {o : Int} {pcy : Nat} (hd : decode bytes pc = .ok (.ifCond cd o, 3)) (hy : (pc : Int) + o = (pcy : Nat)) (hpc : pc + 3 = pc') (KY : cP cd x 0 → Goes p e below E (T.setTop (mkF m pcy ls st))) (KN : ¬ cP cd x 0 → Goes p e below E (T.setTop (mkF m pc' ls st))) : Goes p e below E (T.setTop (mkF m pc ls (.int x :: st))) := by
  subst hpc
  by_cases q : cP cd x 0
  · exact (KY q).back fun _ r => XS.ifYes W.here W.hx rfl (pc0 := pc) (pc' := pcy) rfl (hb W.hby hd) rfl ((if0 _ _).trans (cP_yes q)) (by omega) (by omega) r
  · exact (KN q).back fun _ r => XS.ifNo W.here W.hx rfl (hb W.hby hd) rfl ((if0 _ _).trans (cP_no q)) r
theorem g_icmp (W : Wk Z y bytes ml ret n0 p l e R s m args below meth c T kc ks) {cd : ClassFile.Cond} {x y0 : Int32} {o : Int} {pcy : Nat} (hd : decode bytes pc = .ok (.if_icmp cd o, 3)) (hy : (pc : Int) + o = (pcy : Nat)) (hpc : pc + 3 = pc') (KY : cP cd x y0 → Goes p e below E (T.setTop (mkF m pcy ls st))) (KN : ¬ cP cd x y0 → Goes p e below E (T.setTop (mkF m pc' ls st))) : Goes p e below E (T.setTop (mkF m pc ls (.int y0 :: .int x :: st))) := by
  subst hpc
  by_cases q : cP cd x y0
  · exact (KY q).back fun _ r => XS.icmpYes W.here W.hx rfl (pc0 := pc) (pc' := pcy) rfl (hb W.hby hd) rfl (cP_yes q) (by omega) (by omega) r
  · exact (KN q).back fun _ r => XS.icmpNo W.here W.hx rfl (hb W.hby hd) rfl (cP_no q) r

theorem Wk.more (W : Wk Z y bytes ml ret n0 p l e R s m args below meth c T kc ks) {kc' ks' : Nat} (h1 : kc ≤ kc') (h2 : ks ≤ ks') : Wk Z y bytes ml ret n0 p l e R s m args below meth c T kc' ks' := by
  obtain ⟨A, locs, X, N⟩ := W
  exact ⟨A, locs, X.more h1 h2, N⟩
theorem cmpL_self (x : Int64) : XT.cmpL x x = 0 := by
  show (if x < x then (1 : Int32) else if x = x then 0 else -1) = 0
  rw [if_neg (fun q => by rw [Int64.lt_iff_toInt_lt] at q; omega), if_pos rfl]
/-! ### the ends -/
theorem g_leave (W : Wk Z y bytes ml ret n0 p l e R s m args below meth c T kc ks) {v : Option Value} {U : State} (hv : ret = none → v = none) (hQ : Q v T.heap) (hk : kc ≤ k) (hj : ks ≤ j)
    (st : ∀ fs, (∀ (f : JFrame) (acts : List Action), f.method = m → f.locked = none → f.entered = [] → (doReturn e (T.setTop f) acts v).1 = T.setFrames fs) → Steps p.tables e below U (T.setFrames fs)) : Goes p e below (En s n0 k j Q) U := by
  have hlk := W.hlk
  have hret := W.hret
  obtain ⟨_, locs, X, N⟩ := W
  obtain ⟨fs, hr, hrun, hended, hW, hsame⟩ := X.leave (v := v) (fun q => hv (hret ▸ q)) hlk
  exact ⟨_, v, locs, st fs hr, hrun, hended, ⟨N, hQ⟩, ⟨_, rfl⟩, hW, hsame.mono hk hj⟩
theorem g_return (W : Wk Z y bytes ml none n0 p l e R s m args below meth c T kc ks) (hd : decode bytes pc = .ok (.return_, 1)) (hQ : Q none T.heap) (hk : kc ≤ k) (hj : ks ≤ j) : Goes p e below (En s n0 k j Q) (T.setTop (mkF m pc ls [])) :=
  g_leave W (fun _ => rfl) hQ hk hj fun fs hr => by
    have hret := W.hret
    have hx := W.hx
    have hby := W.hby
    obtain ⟨_, locs, X, N⟩ := W
    exact X.returnOut hx hret (hb hby hd) hr
theorem g_ret {t : FieldType} (W : Wk Z y bytes ml (some t) n0 p l e R s m args below meth c T kc ks) {w : Value} {i : Instr} (hn : narrow t w = w)
    (hi : (i = .ireturn ∧ (t = .int ∨ t = .boolean ∨ t = .byte ∨ t = .char ∨ t = .short) ∧ ∃ z, w = .int z) ∨ (i = .lreturn ∧ t = .long ∧ ∃ z, w = .long z) ∨ (i = .dreturn ∧ t = .double ∧ ∃ z, w = .double z) ∨ (i = .freturn ∧ t = .float ∧ ∃ z, w = .float z) ∨ (i = .areturn ∧ t.isReference = true ∧ w.isRef = true))
    (hd : decode bytes pc = .ok (i, 1)) (hQ : Q (some w) T.heap) (hk : kc ≤ k) (hj : ks ≤ j) : Goes p e below (En s n0 k j Q) (T.setTop (mkF m pc ls (w :: st))) :=
  g_leave W (fun q => nomatch q) hQ hk hj fun fs hr => by
    have hret := W.hret
    have hx := W.hx
    have hby := W.hby
    obtain ⟨_, locs, X, N⟩ := W
    exact retOut X hx hret hn hi (hb hby hd) hr
theorem g_ireturn (W : Wk Z y bytes ml (some .int) n0 p l e R s m args below meth c T kc ks) {x : Int32} (hd : decode bytes pc = .ok (.ireturn, 1)) (hQ : Q (some (.int x)) T.heap) (hk : kc ≤ k) (hj : ks ≤ j) : Goes p e below (En s n0 k j Q) (T.setTop (mkF m pc ls (.int x :: st))) :=
  g_ret W rfl (Or.inl ⟨rfl, Or.inl rfl, _, rfl⟩) hd hQ hk hj
theorem g_zreturn (W : Wk Z y bytes ml (some .boolean) n0 p l e R s m args below meth c T kc ks) {x : Int32} (h01 : x &&& 1 = x) (hd : decode bytes pc = .ok (.ireturn, 1)) (hQ : Q (some (.int x)) T.heap) (hk : kc ≤ k) (hj : ks ≤ j) : Goes p e below (En s n0 k j Q) (T.setTop (mkF m pc ls (.int x :: st))) :=
  g_ret W (by show Value.int (x &&& 1) = _; rw [h01]) (Or.inl ⟨rfl, Or.inr (Or.inl rfl), _, rfl⟩) hd hQ hk hj
theorem g_areturn {t : FieldType} (W : Wk Z y bytes ml (some t) n0 p l e R s m args below meth c T kc ks) {v : Value} (ht : t.isReference = true) (hr : v.isRef = true) (hd : decode bytes pc = .ok (.areturn, 1)) (hQ : Q (some v) T.heap) (hk : kc ≤ k) (hj : ks ≤ j) : Goes p e below (En s n0 k j Q) (T.setTop (mkF m pc ls (v :: st))) :=
  g_ret W (by cases t <;> first | (cases ht; done) | rfl) (Or.inr (Or.inr (Or.inr (Or.inr ⟨rfl, ht, hr⟩)))) hd hQ hk hj
theorem g_lreturn (W : Wk Z y bytes ml (some .long) n0 p l e R s m args below meth c T kc ks) {x : Int64} (hd : decode bytes pc = .ok (.lreturn, 1)) (hQ : Q (some (.long x)) T.heap) (hk : kc ≤ k) (hj : ks ≤ j) : Goes p e below (En s n0 k j Q) (T.setTop (mkF m pc ls (.long x :: st))) :=
  g_ret W rfl (Or.inr (Or.inl ⟨rfl, rfl, _, rfl⟩)) hd hQ hk hj
theorem g_dreturn (W : Wk Z y bytes ml (some .double) n0 p l e R s m args below meth c T kc ks) {x : UInt64} (hd : decode bytes pc = .ok (.dreturn, 1)) (hQ : Q (some (.double x)) T.heap) (hk : kc ≤ k) (hj : ks ≤ j) : Goes p e below (En s n0 k j Q) (T.setTop (mkF m pc ls (.double x :: st))) :=
  g_ret W rfl (Or.inr (Or.inr (Or.inl ⟨rfl, rfl, _, rfl⟩))) hd hQ hk hj
/-! ### the head of a body -/
theorem con_of {ws : List Cond} {rm : Room} {as : Array Value} {h0 : Heap} {Post : Option Value → Heap → Prop} (hpn : plainFor y = true)
    (body : ∀ (p : Program) (e : Env) (s : State) (m : MethodId) (below : List Frame) (meth : Method) (c : Code) (T : State), Wk Z y bytes ml ret n0 p l e rm s m as below meth c T 0 0 → T.heap = h0 → Goes p e below (En s n0 rm.cells rm.slots Post) (T.setTop (entryFrame m as ml))) :
    Con l Z n0 y ws bytes ml ret rm as h0 Post := by
  refine MetFree.of_bodySF hpn hisR ?_
  intro p e s m args below meth c s₁ Bd hml0 hP hK
  obtain ⟨rfl, hZ, hh⟩ := hP
  obtain ⟨s₂, v, L, g1, g2, g3, g4, g5⟩ := body p e s m below meth c s₁ ⟨⟨Bd.exec, hZ, findClass_of_methodNamed Bd.named, Bd.bytes, hml0, Bd.returns, Bd.notSynchronized, (name_of_methodNamed Bd.named Bd.method).1⟩, [], Stand.of_body Bd, Fr.nil n0⟩ (by rw [← hh, Bd.state]; rfl)
  exact ⟨s₂, _, g1, g2, g3, v, L, rfl, g4, g5⟩
theorem g_cast {g g' : JFrame} (q : g = g') (K : Goes p e below E (T.setTop g')) : Goes p e below E (T.setTop g) := q ▸ K
/-! ### constants of the pool -/
theorem g_ldcInt (W : Wk Z y bytes ml ret n0 p l e R s m args below meth c T kc ks) {ix : Nat} {v : Int32} (w : (Cond.constant y.cls ix v).before a0 Z = true) (hd : decode bytes pc = .ok (.ldc ix, 2)) (hpc : pc + 2 = pc') (K : Goes p e below E (T.setTop (mkF m pc' ls (.int v :: st)))) : Goes p e below E (T.setTop (mkF m pc ls st)) := by
  subst hpc
  have hx := W.hx; have hby := W.hby; have hown := W.hown; have hZ := W.hZ
  obtain ⟨_, locs, X, N⟩ := W
  exact K.back fun _ r => X.ldcInt hx hown (mvT hZ w) (g := mkF m pc ls st) rfl (hb hby hd) _ r
theorem g_ldc2Long (W : Wk Z y bytes ml ret n0 p l e R s m args below meth c T kc ks) {ix : Nat} {v : Int64} (w : (Cond.constantLong y.cls ix v).before a0 Z = true) (hd : decode bytes pc = .ok (.ldc2_w ix, 3)) (hpc : pc + 3 = pc') (K : Goes p e below E (T.setTop (mkF m pc' ls (.long v :: st)))) : Goes p e below E (T.setTop (mkF m pc ls st)) := by
  subst hpc
  have hx := W.hx; have hby := W.hby; have hown := W.hown; have hZ := W.hZ
  obtain ⟨_, locs, X, N⟩ := W
  exact K.back fun _ r => X.ldc2Long hx hown (mvT hZ w) (g := mkF m pc ls st) rfl (hb hby hd) _ r
theorem g_ldc2Double (W : Wk Z y bytes ml ret n0 p l e R s m args below meth c T kc ks) {ix : Nat} {v : UInt64} (w : (Cond.constantDouble y.cls ix v).before a0 Z = true) (hd : decode bytes pc = .ok (.ldc2_w ix, 3)) (hpc : pc + 3 = pc') (K : Goes p e below E (T.setTop (mkF m pc' ls (.double v :: st)))) : Goes p e below E (T.setTop (mkF m pc ls st)) := by
  subst hpc
  have hx := W.hx; have hby := W.hby; have hown := W.hown; have hZ := W.hZ
  obtain ⟨_, locs, X, N⟩ := W
  exact K.back fun _ r => X.ldc2DoubleC hx hown (mvT hZ w) (g := mkF m pc ls st) rfl (hb hby hd) _ r
theorem g_ldcFloat (W : Wk Z y bytes ml ret n0 p l e R s m args below meth c T kc ks) {ix : Nat} {v : UInt32} (w : (Cond.constantFloat y.cls ix v).before a0 Z = true) (hd : decode bytes pc = .ok (.ldc ix, 2)) (hpc : pc + 2 = pc') (K : Goes p e below E (T.setTop (mkF m pc' ls (.float v :: st)))) : Goes p e below E (T.setTop (mkF m pc ls st)) := by
  subst hpc
  have hx := W.hx; have hby := W.hby; have hown := W.hown; have hZ := W.hZ
  obtain ⟨_, locs, X, N⟩ := W
  exact K.back fun _ r => X.ldcFloatC hx hown (mvT hZ w) (g := mkF m pc ls st) rfl (hb hby hd) _ r
/-! ### the heap: a list of places, each with what its cell is -/
abbrev HRow := Addr × (Cell → Prop)
/-- what was there at the start Z is as it was -/
def Bs (Z : State) (n0 : Nat) (h : Heap) : Prop := n0 ≤ h.size ∧ Z.heap.size ≤ n0 ∧ Ext Z.heap h
def Hp (Z : State) (n0 : Nat) (h : Heap) (L : List HRow) : Prop := Bs Z n0 h ∧ (L.map (·.1)).Nodup ∧ ∀ r ∈ L, n0 ≤ r.1 ∧ ∃ c : Cell, h[r.1]? = some c ∧ r.2 c
abbrev FR := String × String × String × Value
def FldC (Z : State) (f : FR) (c : Cell) : Prop := ∃ (cf : ClassId) (k : Class) (i : Nat) (fd : Field), Z.fieldFound? f.1 f.2.1 f.2.2.1 = some (cf, k, i, fd) ∧ fd.isStatic = false ∧ Z.vm.assignable c.cls cf = true ∧ c.slots[fd.slot]? = some f.2.2.2
def ObC (Z : State) (C : String) (fs : List FR) (c : Cell) : Prop :=
  (∃ k : Class, Z.vm.findClass C = some c.cls ∧ Z.vm.classes[c.cls]? = some k ∧ (k.kind = .ordinary → c.slots.size = k.instanceTypes.size)) ∧ c.vm ≠ .unknown ∧ c.vm.isStatics = false ∧ (∀ f ∈ fs, FldC Z f c) ∧ (fs.map fun f => RoadKit.slotOf Z f.1 f.2.1 f.2.2.1).Nodup
def ArC (Z : State) (ty : FieldType) (vs : List Value) (c : Cell) : Prop := Z.isArrayOf c ty ∧ c.vm ≠ .unknown ∧ c.slots = vs.toArray ∧ vs.length < 2 ^ 31
section Heap
variable {h h' : Heap} {L : List HRow} {a : Addr} {P P' : Cell → Prop} {cell : Cell} {i jx : Nat} {C O n d R0 : String} {fs : List FR} {v w : Value} {vs : List Value} {ty : FieldType}
theorem Bs.start : Bs Z Z.heap.size Z.heap := ⟨Nat.le_refl _, Nat.le_refl _, Nat.le_refl _, fun _ _ q => q⟩
theorem Bs.ext (q : Bs Z n0 h) (E : Ext h h') : Bs Z n0 h' := ⟨Nat.le_trans q.1 E.1, q.2.1, Nat.le_trans q.2.2.1 E.1, fun a c r => E.2 a c (q.2.2.2 a c r)⟩
theorem Bs.put (q : Bs Z n0 h) (ha : n0 ≤ a) (c' : Cell) : Bs Z n0 (h.setIfInBounds a c') := by
  refine ⟨by simpa using q.1, q.2.1, by simpa using q.2.2.1, fun x c r => ?_⟩
  have hx := (Array.getElem?_eq_some_iff.mp r).1
  have := q.2.1
  rw [Array.getElem?_setIfInBounds_ne (by omega)]; exact q.2.2.2 x c r
theorem Hp.nil (q : Bs Z n0 h) : Hp Z n0 h [] := ⟨q, List.nodup_nil, fun _ r => nomatch r⟩
theorem Hp.get (H : Hp Z n0 h L) (hi : L[i]? = some (a, P)) : n0 ≤ a ∧ ∃ c : Cell, h[a]? = some c ∧ P c := H.2.2 (a, P) (List.mem_of_getElem? hi)
theorem map_set_same {α β : Type} (f : α → β) : ∀ (L : List α) (i : Nat) (x x' : α), L[i]? = some x → f x' = f x → (L.set i x').map f = L.map f
  | [], _, _, _, h, _ => by simp at h
  | z :: L, 0, x, x', h, e => by simp at h; subst h; simp [e]
  | z :: L, i + 1, x, x', h, e => by simp at h; simp [map_set_same f L i x x' h e]
theorem nodup_inj {α : Type} {l : List α} (h : l.Nodup) {i j : Nat} {x : α} (hi : l[i]? = some x) (hj : l[j]? = some x) : i = j := (List.getElem?_inj (List.getElem?_eq_some_iff.mp hi).1 h).mp (hi.trans hj.symm)
theorem erase_perm {α : Type} : ∀ (L : List α) (i : Nat) (x : α), L[i]? = some x → L.Perm (x :: L.eraseIdx i)
  | [], _, _, h => by simp at h
  | z :: L, 0, x, h => by simp at h; subst h; exact List.Perm.refl _
  | z :: L, i + 1, x, h => by
    simp at h
    exact ((erase_perm L i x h).cons z).trans (List.Perm.swap x z _)
theorem Hp.put (H : Hp Z n0 h L) (hi : L[i]? = some (a, P)) {c' : Cell} (hP : P' c') : Hp Z n0 (h.setIfInBounds a c') (L.set i (a, P')) := by
  obtain ⟨h1, h2, h3⟩ := H
  obtain ⟨q1, c0, q2, -⟩ := Hp.get ⟨h1, h2, h3⟩ hi
  have hlt := (Array.getElem?_eq_some_iff.mp q2).1
  refine ⟨h1.put q1 c', by rw [map_set_same (·.1) L i (a, P) (a, P') hi rfl]; exact h2, fun r hr => ?_⟩
  obtain ⟨jj, hj, hjr⟩ := List.mem_iff_getElem.mp hr
  have hjL : jj < L.length := by simpa using hj
  by_cases e : jj = i
  · subst e
    rw [List.getElem_set_self] at hjr
    subst hjr
    exact ⟨q1, c', by simp [hlt], hP⟩
  · rw [List.getElem_set_ne (Ne.symm e)] at hjr
    have hm : r ∈ L := hjr ▸ List.getElem_mem hjL
    obtain ⟨g1, c1, g2, g3⟩ := h3 r hm
    refine ⟨g1, c1, ?_, g3⟩
    have hne : a ≠ r.1 := fun q => by
      have e1 : (L.map (·.1))[i]? = some a := by rw [List.getElem?_map, hi]; rfl
      have e2 : (L.map (·.1))[jj]? = some a := by rw [List.getElem?_map, List.getElem?_eq_getElem hjL, hjr, q]; rfl
      exact e (nodup_inj h2 e2 e1)
    rw [Array.getElem?_setIfInBounds_ne hne]; exact g2
theorem Hp.push (H : Hp Z n0 h L) (E : Ext h h') {c : Cell} (hc : h'[h.size]? = some c) (hP : P c) : Hp Z n0 h' ((h.size, P) :: L) := by
  refine ⟨H.1.ext E, ?_, fun r hr => ?_⟩
  · rw [List.map_cons, List.nodup_cons]
    refine ⟨fun q => ?_, H.2.1⟩
    obtain ⟨r, hr, e⟩ := List.mem_map.mp q
    obtain ⟨-, c1, g2, -⟩ := H.2.2 r hr
    have := (Array.getElem?_eq_some_iff.mp g2).1
    have e' : r.1 = h.size := e
    rw [e'] at this; exact Nat.lt_irrefl _ this
  · rcases List.mem_cons.mp hr with rfl | hr
    · exact ⟨H.1.1, c, hc, hP⟩
    · obtain ⟨g1, c1, g2, g3⟩ := H.2.2 r hr
      exact ⟨g1, c1, E.2 _ _ g2, g3⟩
theorem Hp.perm {L' : List HRow} (H : Hp Z n0 h L) (q : L.Perm L') : Hp Z n0 h L' := ⟨H.1, (q.map _).nodup_iff.mp H.2.1, fun r hr => H.2.2 r (q.mem_iff.mpr hr)⟩
theorem Hp.front {r : HRow} (H : Hp Z n0 h L) (hi : L[i]? = some r) {L' : List HRow} (hL : r :: L.eraseIdx i = L') : Hp Z n0 h L' := by
  subst hL
  exact H.perm (erase_perm L i r hi)
theorem Hp.imp (H : Hp Z n0 h L) (hi : L[i]? = some (a, P)) (q : ∀ c, P c → P' c) : Hp Z n0 h (L.set i (a, P')) := by
  obtain ⟨q1, c0, q2, q3⟩ := H.get hi
  have := H.put hi (q c0 q3)
  have e : h.setIfInBounds a c0 = h := by
    apply Array.ext_getElem?; intro x
    by_cases z : a = x
    · subst z; simp [(Array.getElem?_eq_some_iff.mp q2).1, ← q2]
    · rw [Array.getElem?_setIfInBounds_ne z]
  rw [e] at this; exact this
theorem Hp.tail {r : HRow} (H : Hp Z n0 h (r :: L)) : Hp Z n0 h L := ⟨H.1, (List.nodup_cons.mp H.2.1).2, fun x hx => H.2.2 x (List.mem_cons_of_mem _ hx)⟩
theorem Hp.ne (H : Hp Z n0 h L) {b : Addr} (hi : L[i]? = some (a, P)) (hj : L[jx]? = some (b, P')) (hne : i ≠ jx) : a ≠ b := fun q => by
  have e1 : (L.map (·.1))[i]? = some a := by rw [List.getElem?_map, hi]; rfl
  have e2 : (L.map (·.1))[jx]? = some a := by rw [List.getElem?_map, hj, q]; rfl
  exact hne (nodup_inj H.2.1 e1 e2)
theorem FldC.fld {f : FR} (F : FldC Z f cell) (hc : h[a]? = some cell) (hu : cell.vm ≠ .unknown) (hst : cell.vm.isStatics = false) : Fld Z h a f.1 f.2.1 f.2.2.1 f.2.2.2 := by
  obtain ⟨cf, k, i, fd, h1, h2, h3, h4⟩ := F
  exact ⟨cell, cf, k, i, fd, hc, h1, h2, hu, hst, h3, h4⟩
theorem ObC.exa (F : ObC Z C fs cell) (hc : h[a]? = some cell) : Exa Z h a C := by
  obtain ⟨⟨k, h1, h2, h3⟩, h4, h5, -⟩ := F
  exact ⟨cell, k, hc, h1, h2, h5, h3⟩
theorem ObC.put (F : ObC Z C fs cell) (hj : fs[jx]? = some (O, n, d, v)) : ObC Z C (fs.set jx (O, n, d, w)) (cell.setSlot (RoadKit.slotOf Z O n d) w) := by
  obtain ⟨⟨k, h1, h2, h3⟩, h4, h5, h6, h7⟩ := F
  refine ⟨⟨k, h1, h2, fun q => by rw [sz_set]; exact h3 q⟩, h4, h5, fun f hf => ?_, by rw [map_set_same (fun f : FR => RoadKit.slotOf Z f.1 f.2.1 f.2.2.1) fs jx (O, n, d, v) (O, n, d, w) hj rfl]; exact h7⟩
  obtain ⟨hjL, hjE⟩ := List.getElem?_eq_some_iff.mp hj
  obtain ⟨ii, hi, hie⟩ := List.mem_iff_getElem.mp hf
  have hiL : ii < fs.length := by simpa using hi
  by_cases e : ii = jx
  · subst e
    rw [List.getElem_set_self] at hie
    subst hie
    obtain ⟨cf, kf, i, fd, g1, g2, g3, g4⟩ := h6 _ (hjE ▸ List.getElem_mem hjL)
    refine ⟨cf, kf, i, fd, g1, g2, g3, ?_⟩
    have es : RoadKit.slotOf Z O n d = fd.slot := by simp only [RoadKit.slotOf]; rw [show Z.fieldFound? O n d = _ from g1]; rfl
    have hlt := (Array.getElem?_eq_some_iff.mp g4).1
    simp [Cell.setSlot, es, hlt]
  · rw [List.getElem_set_ne (Ne.symm e)] at hie
    have hm : f ∈ fs := hie ▸ List.getElem_mem hiL
    obtain ⟨cf, kf, i, fd, g1, g2, g3, g4⟩ := h6 f hm
    refine ⟨cf, kf, i, fd, g1, g2, g3, ?_⟩
    have es : RoadKit.slotOf Z f.1 f.2.1 f.2.2.1 = fd.slot := by simp only [RoadKit.slotOf]; rw [g1]; rfl
    have hne : RoadKit.slotOf Z O n d ≠ fd.slot := fun q => by
      have e1 : (fs.map fun f => RoadKit.slotOf Z f.1 f.2.1 f.2.2.1)[jx]? = some fd.slot := by rw [List.getElem?_map, hj, ← q]; rfl
      have e2 : (fs.map fun f => RoadKit.slotOf Z f.1 f.2.1 f.2.2.1)[ii]? = some fd.slot := by rw [List.getElem?_map, List.getElem?_eq_getElem hiL, hie, ← es]; rfl
      exact e (nodup_inj h7 e2 e1)
    show (cell.slots.setIfInBounds _ w)[fd.slot]? = _
    rw [Array.getElem?_setIfInBounds_ne hne]; exact g4
/-- what a class's layout words give: each field laid, its first value, the names apart -/
def LaidAll (Z : State) (a0 : Array Value) (C : String) (fs : List FR) : Prop := ∀ f ∈ fs, Laid Z a0 C f.1 f.2.1 f.2.2.1 ∧ ∃ t, parseFieldDescriptor f.2.2.1 = some t ∧ f.2.2.2 = defaultValue t
theorem LaidAll.nil : LaidAll Z a0 C [] := fun _ q => nomatch q
theorem LaidAll.cons {t : FieldType} (q : Laid Z a0 C O n d) (ht : parseFieldDescriptor d = some t) (hv : v = defaultValue t) (r : LaidAll Z a0 C fs) : LaidAll Z a0 C ((O, n, d, v) :: fs) := fun f hf => by
  rcases List.mem_cons.mp hf with rfl | hf
  · exact ⟨q, t, ht, hv⟩
  · exact r f hf
theorem LaidAll.slots (H : LaidAll Z a0 C fs) (q : (fs.map (·.2.1)).Nodup) : (fs.map fun f => RoadKit.slotOf Z f.1 f.2.1 f.2.2.1).Nodup := by
  induction fs with
  | nil => exact List.nodup_nil
  | cons f fs ih =>
    rw [List.map_cons, List.nodup_cons] at q ⊢
    refine ⟨fun z => ?_, ih (fun x hx => H x (List.mem_cons_of_mem _ hx)) q.2⟩
    obtain ⟨g, hg, e⟩ := List.mem_map.mp z
    obtain ⟨L1, t1, p1, -⟩ := H f (List.mem_cons_self ..)
    obtain ⟨L2, t2, p2, -⟩ := H g (List.mem_cons_of_mem _ hg)
    exact slot_ne L2 L1 (fun u => q.1 (List.mem_map.mpr ⟨g, hg, u⟩)) p2 p1 e
/-! ### the steps that read or write it -/
theorem g_getf (W : Wk Z y bytes ml ret n0 p l e R s m args below meth c T kc ks) {ix : Nat} (w : (Cond.fieldLink y.cls ix R0 n d).before a0 Z = true) (via : Via Z R0 O n d) (H : Hp Z n0 T.heap L) (hi : L[i]? = some (a, ObC Z C fs)) (hj : fs[jx]? = some (O, n, d, v)) (hd : decode bytes pc = .ok (.getfield ix, 3)) (hpc : pc + 3 = pc')
    (K : ∀ T', Wk Z y bytes ml ret n0 p l e R s m args below meth c T' kc ks → Hp Z n0 T'.heap L → Goes p e below E (T'.setTop (mkF m pc' ls (v :: st)))) : Goes p e below E (T.setTop (mkF m pc ls (.ref a :: st))) := by
  subst hpc
  have hx := W.hx; have hby := W.hby; have hown := W.hown; have hZ := W.hZ
  obtain ⟨A, locs, X, N⟩ := W
  obtain ⟨-, cl, q1, q2⟩ := H.get hi
  have F := (q2.2.2.2.1 _ (List.mem_of_getElem? hj)).fld q1 q2.2.1 q2.2.2.1
  obtain ⟨T', X', e', st'⟩ := getF X hx hZ hown (host := "") (Or.inl w) via rfl F (g := mkF m pc ls (.ref a :: st)) rfl rfl (hb hby hd)
  exact (K T' ⟨A, locs, X', N⟩ (e' ▸ H)).back st'
theorem g_putf (W : Wk Z y bytes ml ret n0 p l e R s m args below meth c T kc ks) {ix kk : Nat} (wd : (Cond.fieldLink y.cls ix R0 n d).before a0 Z = true) (via : Via Z R0 O n d) (wl : (Cond.lays C O n d).before a0 Z = true ∨ ((Cond.laysFinal C O n d).before a0 Z = true ∧ y.cls = O ∧ y.name = "<init>")) (wi : (Cond.instantiable C kk).before a0 Z = true) (hty : parseFieldDescriptor d = some ty) (hn : narrow ty w = w) (hf : fits ty w = true)
    (H : Hp Z n0 T.heap L) (hi : L[i]? = some (a, ObC Z C fs)) (hj : fs[jx]? = some (O, n, d, v)) (hd : decode bytes pc = .ok (.putfield ix, 3)) (hpc : pc + 3 = pc') {L' : List HRow} (hL : L.set i (a, ObC Z C (fs.set jx (O, n, d, w))) = L')
    (K : ∀ T', Wk Z y bytes ml ret n0 p l e R s m args below meth c T' kc ks → Hp Z n0 T'.heap L' → Goes p e below E (T'.setTop (mkF m pc' ls st))) : Goes p e below E (T.setTop (mkF m pc ls (w :: .ref a :: st))) := by
  subst hpc hL
  have hx := W.hx; have hby := W.hby; have hown := W.hown; have hZ := W.hZ; have hnm := W.hnm
  obtain ⟨A, locs, X, N⟩ := W
  obtain ⟨hn0, cl, q1, q2⟩ := H.get hi
  have F := (q2.2.2.2.1 _ (List.mem_of_getElem? hj)).fld q1 q2.2.1 q2.2.2.1
  obtain ⟨T', h', X', e', Wr', st'⟩ := putF X hx hZ hown (host := "") (Or.inl wd) via rfl F (q2.exa q1) (wl.imp id fun q => ⟨q.1, q.2.1, hnm.trans q.2.2⟩) wi hty hn hf (g := mkF m pc ls (w :: .ref a :: st)) rfl rfl (hb hby hd)
  obtain ⟨cl', g1, -, -, rfl⟩ := Wr'
  cases q1.symm.trans g1
  exact (K T' ⟨A, _, X', Fr.snoc X' N hn0⟩ (by rw [e']; exact H.put hi (q2.put hj))).back st'
theorem g_new (W : Wk Z y bytes ml ret n0 p l e R s m args below meth c T kc ks) {ix nn : Nat} (w : (Cond.classLink y.cls ix C).before a0 Z = true) (wi : (Cond.instantiable C nn).before a0 Z = true) (wz : (Cond.initialized C).before a0 Z = true) (la : LaidAll Z a0 C fs) (nd : (fs.map (·.2.1)).Nodup) (H : Hp Z n0 T.heap L) (hd : decode bytes pc = .ok (.new ix, 3)) (hpc : pc + 3 = pc')
    {kc' ks' : Nat} (hkc : kc + 1 = kc') (hks : ks + nn = ks') (hc : kc' ≤ R.cells) (hl : ks' ≤ R.slots)
    (K : ∀ T' a, Wk Z y bytes ml ret n0 p l e R s m args below meth c T' kc' ks' → Hp Z n0 T'.heap ((a, ObC Z C fs) :: L) → Goes p e below E (T'.setTop (mkF m pc' ls (.ref a :: st)))) : Goes p e below E (T.setTop (mkF m pc ls st)) := by
  subst hpc hkc hks
  have hx := W.hx; have hby := W.hby; have hown := W.hown; have hZ := W.hZ
  obtain ⟨A, locs, X, N⟩ := W
  obtain ⟨T', h', X', e', E', X1, D, ⟨cell, hcell, hvm, -⟩, st'⟩ := newO X hx hZ hown w wi wz rfl (g := mkF m pc ls st) rfl (hb hby hd) hc hl
  have hob : ObC Z C fs cell := by
    obtain ⟨cell', k', g1, g2, g3, g4, g5⟩ := X1
    cases hcell.symm.trans g1
    refine ⟨⟨k', g2, g3, g5⟩, by rw [hvm]; simp, g4, fun f hf => ?_, la.slots nd⟩
    obtain ⟨Lf, t, ht, hv⟩ := la f hf
    obtain ⟨c2, cf, kf, ii, fd, r1, r2, r3, -, -, r6, r7⟩ := D Lf ht
    cases hcell.symm.trans r1
    exact ⟨cf, kf, ii, fd, r2, r3, r6, by rw [hv]; exact r7⟩
  exact (K T' T.heap.size ⟨A, locs, X', N⟩ (by rw [e']; exact H.push E' hcell hob)).back st'
theorem g_initO (W : Wk Z y bytes ml ret n0 p l e R s m args below meth c T kc ks) {ix : Nat} (w1 : (Cond.methodLink y.cls ix Lib.objectInit).before a0 Z = true) (w2 : (Cond.instanceMethod Lib.objectInit).before a0 Z = true) (w3 : (Cond.code Lib.objectInit ⟨#[0xb1]⟩ 1 none).before a0 Z = true) (H : Hp Z n0 T.heap L) (hls : ls.size = ml) (hd : decode bytes pc = .ok (.invokespecial ix, 3)) (hpc : pc + 3 = pc')
    (hf : 1 ≤ R.frames) {Wn : Nat} (hW : (st.map fun v => v.category).sum ≤ Wn) (hl : Wn + 12 ≤ R.locals)
    (K : ∀ T', Wk Z y bytes ml ret n0 p l e R s m args below meth c T' kc ks → Hp Z n0 T'.heap L → Goes p e below E (T'.setTop (mkF m pc' ls st))) : Goes p e below E (T.setTop (mkF m pc ls (.ref a :: st))) := by
  subst hpc
  have hx := W.hx; have hby := W.hby; have hown := W.hown; have hZ := W.hZ; have hml := W.hml
  obtain ⟨A, locs, X, N⟩ := W
  obtain ⟨T', X', e', st'⟩ := initO X hx hZ hown w1 w2 w3 rfl (g := mkF m pc ls (.ref a :: st)) rfl (by rw [hml]; exact hls) rfl (hb hby hd) hf (W := Wn) (by show 2 * 0 + _ ≤ _; omega) hl
  exact (K T' ⟨A, locs, X', N⟩ (e' ▸ H)).back st'
/-! ### arrays -/
theorem ArC.arr (F : ArC Z ty vs cell) (hc : h[a]? = some cell) : Arr Z h a cell ty := ⟨hc, F.1, F.2.1⟩
theorem idx_ok {x : Int32} (hx : x.toInt = (jx : Int)) (F : ArC Z ty vs cell) (hj : jx < vs.length) : ¬ (x < 0 ∨ cell.slots.size ≤ x.toNatClampNeg) := by
  rw [F.2.2.1]
  have e0 : (0 : Int32).toInt = 0 := rfl
  simp only [Int32.lt_iff_toInt_lt, Int32.toNatClampNeg, List.size_toArray, e0, hx]; omega
theorem idx_nat {x : Int32} (hx : x.toInt = (jx : Int)) : x.toNatClampNeg = jx := by simp only [Int32.toNatClampNeg, hx]; omega
theorem g_newarr (W : Wk Z y bytes ml ret n0 p l e R s m args below meth c T kc ks) {aty : ArrayType} (w : (Cond.arrayClass (newarray.typeOf aty)).before a0 Z = true) (H : Hp Z n0 T.heap L) {x : Int32} (hx0 : ¬ x < 0) (hvs : List.replicate x.toNatClampNeg (defaultValue (newarray.typeOf aty)) = vs) {cap : Nat} (hcap : vs.length ≤ cap) (hcb : cap * 8 ≤ 536870912) (hd : decode bytes pc = .ok (.newarray aty, 2)) (hpc : pc + 2 = pc')
    {kc' ks' : Nat} (hkc : kc + 1 = kc') (hks : ks + cap = ks') (hc : kc' ≤ R.cells) (hl : ks' ≤ R.slots)
    (K : ∀ T' a, Wk Z y bytes ml ret n0 p l e R s m args below meth c T' kc' ks' → Hp Z n0 T'.heap ((a, ArC Z (newarray.typeOf aty) vs) :: L) → Goes p e below E (T'.setTop (mkF m pc' ls (.ref a :: st)))) : Goes p e below E (T.setTop (mkF m pc ls (.int x :: st))) := by
  subst hpc hkc hks hvs
  have hx := W.hx; have hby := W.hby; have hZ := W.hZ
  obtain ⟨A, locs, X, N⟩ := W
  rw [List.length_replicate] at hcap
  obtain ⟨T', h', cA, X', e', E', A1, st'⟩ := newP X hx hZ w rfl (g := mkF m pc ls (.int x :: st)) rfl (hb hby hd) rfl hx0 hcap hcb hc hl
  have hl31 : (List.replicate x.toNatClampNeg (defaultValue (newarray.typeOf aty))).length < 2 ^ 31 := by rw [List.length_replicate]; omega
  exact (K T' T.heap.size ⟨A, locs, X', N⟩ (by rw [e']; exact H.push E' A1.1 ⟨A1.2.1, A1.2.2, by simp [newA], hl31⟩)).back st'
theorem g_arrlen (W : Wk Z y bytes ml ret n0 p l e R s m args below meth c T kc ks) (H : Hp Z n0 T.heap L) (hi : L[i]? = some (a, ArC Z ty vs)) {x : Int32} (hx : vs.length.toInt32 = x) (hd : decode bytes pc = .ok (.arraylength, 1)) (hpc : pc + 1 = pc') (K : Goes p e below E (T.setTop (mkF m pc' ls (.int x :: st)))) : Goes p e below E (T.setTop (mkF m pc ls (.ref a :: st))) := by
  subst hpc hx
  have hx := W.hx; have hby := W.hby; have hZ := W.hZ
  obtain ⟨A, locs, X, N⟩ := W
  obtain ⟨-, cl, q1, q2⟩ := H.get hi
  refine K.back fun t r => X.arraylength hx q1 (State.isArrayOf_alike hZ.alike q2.1) (g := mkF m pc ls (.ref a :: st)) rfl rfl (hb hby hd) t ?_
  have e : cl.slots.size = vs.length := by rw [q2.2.2.1]; simp
  rw [e]; exact r
theorem g_iaload (W : Wk Z y bytes ml ret n0 p l e R s m args below meth c T kc ks) (H : Hp Z n0 T.heap L) (hi : L[i]? = some (a, ArC Z .int vs)) {x : Int32} (hx : x.toInt = (jx : Int)) (hv : vs[jx]? = some v) (hd : decode bytes pc = .ok (.iaload, 1)) (hpc : pc + 1 = pc') (K : Goes p e below E (T.setTop (mkF m pc' ls (v :: st)))) : Goes p e below E (T.setTop (mkF m pc ls (.int x :: .ref a :: st))) := by
  subst hpc
  have hxx := W.hx; have hby := W.hby; have hZ := W.hZ
  obtain ⟨A, locs, X, N⟩ := W
  obtain ⟨-, cl, q1, q2⟩ := H.get hi
  exact K.back fun t r => X.iaload hxx q1 (State.isArrayOf_alike hZ.alike q2.1) q2.2.1 (idx_ok hx q2 (List.getElem?_eq_some_iff.mp hv).1) (by rw [idx_nat hx, q2.2.2.1]; simpa using hv) (g := mkF m pc ls (.int x :: .ref a :: st)) rfl rfl (hb hby hd) t r
theorem g_laload (W : Wk Z y bytes ml ret n0 p l e R s m args below meth c T kc ks) (H : Hp Z n0 T.heap L) (hi : L[i]? = some (a, ArC Z .long vs)) {x : Int32} (hx : x.toInt = (jx : Int)) (hv : vs[jx]? = some v) (hd : decode bytes pc = .ok (.laload, 1)) (hpc : pc + 1 = pc') (K : Goes p e below E (T.setTop (mkF m pc' ls (v :: st)))) : Goes p e below E (T.setTop (mkF m pc ls (.int x :: .ref a :: st))) := by
  subst hpc
  have hxx := W.hx; have hby := W.hby; have hZ := W.hZ
  obtain ⟨A, locs, X, N⟩ := W
  obtain ⟨-, cl, q1, q2⟩ := H.get hi
  exact K.back fun t r => X.laload hxx q1 (State.isArrayOf_alike hZ.alike q2.1) q2.2.1 (idx_ok hx q2 (List.getElem?_eq_some_iff.mp hv).1) (by rw [idx_nat hx, q2.2.2.1]; simpa using hv) (g := mkF m pc ls (.int x :: .ref a :: st)) rfl rfl (hb hby hd) t r
theorem g_daload (W : Wk Z y bytes ml ret n0 p l e R s m args below meth c T kc ks) (H : Hp Z n0 T.heap L) (hi : L[i]? = some (a, ArC Z .double vs)) {x : Int32} (hx : x.toInt = (jx : Int)) (hv : vs[jx]? = some v) (hd : decode bytes pc = .ok (.daload, 1)) (hpc : pc + 1 = pc') (K : Goes p e below E (T.setTop (mkF m pc' ls (v :: st)))) : Goes p e below E (T.setTop (mkF m pc ls (.int x :: .ref a :: st))) := by
  subst hpc
  have hxx := W.hx; have hby := W.hby; have hZ := W.hZ
  obtain ⟨A, locs, X, N⟩ := W
  obtain ⟨-, cl, q1, q2⟩ := H.get hi
  exact K.back fun t r => X.daload hxx q1 (State.isArrayOf_alike hZ.alike q2.1) q2.2.1 (idx_ok hx q2 (List.getElem?_eq_some_iff.mp hv).1) (by rw [idx_nat hx, q2.2.2.1]; simpa using hv) (g := mkF m pc ls (.int x :: .ref a :: st)) rfl rfl (hb hby hd) t r
theorem g_iastore (W : Wk Z y bytes ml ret n0 p l e R s m args below meth c T kc ks) (H : Hp Z n0 T.heap L) (hi : L[i]? = some (a, ArC Z .int vs)) {x : Int32} {u : Int32} (hx : x.toInt = (jx : Int)) (hj : jx < vs.length) (hd : decode bytes pc = .ok (.iastore, 1)) (hpc : pc + 1 = pc') {L' : List HRow} (hL : L.set i (a, ArC Z .int (vs.set jx (.int u))) = L')
    (K : ∀ T', Wk Z y bytes ml ret n0 p l e R s m args below meth c T' kc ks → Hp Z n0 T'.heap L' → Goes p e below E (T'.setTop (mkF m pc' ls st))) : Goes p e below E (T.setTop (mkF m pc ls (.int u :: .int x :: .ref a :: st))) := by
  subst hpc hL
  have hxx := W.hx; have hby := W.hby; have hZ := W.hZ
  obtain ⟨A, locs, X, N⟩ := W
  obtain ⟨hn0, cl, q1, q2⟩ := H.get hi
  obtain ⟨T', h', X', e', Wr', st'⟩ := stI X hxx hZ rfl (q2.arr q1) (idx_ok hx q2 hj) (g := mkF m pc ls (.int u :: .int x :: .ref a :: st)) rfl rfl (hb hby hd)
  obtain ⟨cl', g1, -, -, rfl⟩ := Wr'
  cases q1.symm.trans g1
  have hsl : (cl.setSlot x.toNatClampNeg (.int u)).slots = (vs.set jx (.int u)).toArray := by rw [idx_nat hx]; show cl.slots.setIfInBounds jx _ = _; rw [q2.2.2.1]; simp
  exact (K T' ⟨A, _, X', Fr.snoc X' N hn0⟩ (by rw [e']; exact H.put hi ⟨q2.1, q2.2.1, hsl, by rw [List.length_set]; exact q2.2.2.2⟩)).back st'
theorem g_lastore (W : Wk Z y bytes ml ret n0 p l e R s m args below meth c T kc ks) (H : Hp Z n0 T.heap L) (hi : L[i]? = some (a, ArC Z .long vs)) {x : Int32} {u : Int64} (hx : x.toInt = (jx : Int)) (hj : jx < vs.length) (hd : decode bytes pc = .ok (.lastore, 1)) (hpc : pc + 1 = pc') {L' : List HRow} (hL : L.set i (a, ArC Z .long (vs.set jx (.long u))) = L')
    (K : ∀ T', Wk Z y bytes ml ret n0 p l e R s m args below meth c T' kc ks → Hp Z n0 T'.heap L' → Goes p e below E (T'.setTop (mkF m pc' ls st))) : Goes p e below E (T.setTop (mkF m pc ls (.long u :: .int x :: .ref a :: st))) := by
  subst hpc hL
  have hxx := W.hx; have hby := W.hby; have hZ := W.hZ
  obtain ⟨A, locs, X, N⟩ := W
  obtain ⟨hn0, cl, q1, q2⟩ := H.get hi
  obtain ⟨T', h', X', e', Wr', st'⟩ := stJ X hxx hZ rfl (q2.arr q1) (idx_ok hx q2 hj) (g := mkF m pc ls (.long u :: .int x :: .ref a :: st)) rfl rfl (hb hby hd)
  obtain ⟨cl', g1, -, -, rfl⟩ := Wr'
  cases q1.symm.trans g1
  have hsl : (cl.setSlot x.toNatClampNeg (.long u)).slots = (vs.set jx (.long u)).toArray := by rw [idx_nat hx]; show cl.slots.setIfInBounds jx _ = _; rw [q2.2.2.1]; simp
  exact (K T' ⟨A, _, X', Fr.snoc X' N hn0⟩ (by rw [e']; exact H.put hi ⟨q2.1, q2.2.1, hsl, by rw [List.length_set]; exact q2.2.2.2⟩)).back st'
theorem g_dastore (W : Wk Z y bytes ml ret n0 p l e R s m args below meth c T kc ks) (H : Hp Z n0 T.heap L) (hi : L[i]? = some (a, ArC Z .double vs)) {x : Int32} {u : UInt64} (hx : x.toInt = (jx : Int)) (hj : jx < vs.length) (hd : decode bytes pc = .ok (.dastore, 1)) (hpc : pc + 1 = pc') {L' : List HRow} (hL : L.set i (a, ArC Z .double (vs.set jx (.double u))) = L')
    (K : ∀ T', Wk Z y bytes ml ret n0 p l e R s m args below meth c T' kc ks → Hp Z n0 T'.heap L' → Goes p e below E (T'.setTop (mkF m pc' ls st))) : Goes p e below E (T.setTop (mkF m pc ls (.double u :: .int x :: .ref a :: st))) := by
  subst hpc hL
  have hxx := W.hx; have hby := W.hby; have hZ := W.hZ
  obtain ⟨A, locs, X, N⟩ := W
  obtain ⟨hn0, cl, q1, q2⟩ := H.get hi
  obtain ⟨T', h', X', e', Wr', st'⟩ := stD X hxx hZ rfl (q2.arr q1) (idx_ok hx q2 hj) (g := mkF m pc ls (.double u :: .int x :: .ref a :: st)) rfl rfl (hb hby hd)
  obtain ⟨cl', g1, -, -, rfl⟩ := Wr'
  cases q1.symm.trans g1
  have hsl : (cl.setSlot x.toNatClampNeg (.double u)).slots = (vs.set jx (.double u)).toArray := by rw [idx_nat hx]; show cl.slots.setIfInBounds jx _ = _; rw [q2.2.2.1]; simp
  exact (K T' ⟨A, _, X', Fr.snoc X' N hn0⟩ (by rw [e']; exact H.put hi ⟨q2.1, q2.2.1, hsl, by rw [List.length_set]; exact q2.2.2.2⟩)).back st'
end Heap
/-! ### calls by contract -/
section Calls
variable {y' : MethodName} {bytes' : ByteArray} {ml' : Nat} {ret' : Option FieldType} {rm : Room} {Post : Option Value → Heap → Prop} {argsL stk : List Value} {ix : Nat} {Wn kc' ks' : Nat} {ps : List FieldType} {rt : Option FieldType}
theorem g_callS (W : Wk Z y bytes ml ret n0 p l e R s m args below meth c T kc ks) (w1 : (Cond.methodLink y.cls ix y').before a0 Z = true) (w2 : (Cond.static y').before a0 Z = true) (w3 : (Cond.initialized y'.cls).before a0 Z = true) (w4 : (Cond.code y' bytes' ml' ret').before a0 Z = true) (hy : y'.cls ≠ "java/lang/invoke/MethodHandle" ∧ y'.cls ≠ "java/lang/invoke/VarHandle")
    (con : Con l Z n0 y' [] bytes' ml' ret' rm argsL.toArray T.heap Post) (hpd : parseMethodDescriptor y'.desc = some ⟨ps, rt⟩) (hlen : argsL.length = ps.length) (hstk : stk = argsL.reverse ++ st) (hls : ls.size = ml) (hd : decode bytes pc = .ok (.invokestatic ix, 3)) (hpc : pc + 3 = pc')
    (hf : rm.frames + 1 ≤ R.frames) (hW : (st.map fun v => v.category).sum ≤ Wn) (hl : Wn + (ml' + 11) + rm.locals ≤ R.locals) (hkc : kc + rm.cells = kc') (hks : ks + rm.slots = ks') (hc : kc' ≤ R.cells) (hs : ks' ≤ R.slots)
    (K : ∀ T' v, Wk Z y bytes ml ret n0 p l e R s m args below meth c T' kc' ks' → Post v T'.heap → Goes p e below E (T'.setTop (mkF m pc' ls (v.toList ++ st)))) : Goes p e below E (T.setTop (mkF m pc ls stk)) := by
  subst hpc hkc hks hstk
  have hx := W.hx; have hby := W.hby; have hown := W.hown; have hZ := W.hZ; have hml := W.hml
  obtain ⟨A, locs, X, N⟩ := W
  obtain ⟨v, vm1, ⟨T', L', kk, jj⟩, -, X', ⟨Lc, ⟨hN, hQ⟩, l1, l2, l3⟩, st'⟩ := Jvm.LawKit.callS X hx hown (mvT hZ w1) (mvT hZ w2) (mvT hZ w3) (mvT hZ w4) hy (backOf (Q := fun v h L => Fr n0 L ∧ Post v h) (W := Wn) con hZ w4 w3 hf hl) (g := mkF m pc ls (argsL.reverse ++ st)) rfl (by rw [hml]; exact hls) (argsL := argsL) (rest := st) (lenOf hpd hlen) rfl (by show 2 * 0 + _ ≤ _; omega) (hb hby hd) (fun _ _ => ⟨rfl, rfl, hc, hs⟩)
  dsimp only [Pt.U, Pt.locs, Pt.cells, Pt.slots] at X' l1 l2 l3 hQ st'
  subst l1 l2 l3
  exact (K T' v ⟨A, _, X', N.app hN⟩ hQ).back st'
theorem g_callI (W : Wk Z y bytes ml ret n0 p l e R s m args below meth c T kc ks) (hin : y'.name = "<init>") (w1 : (Cond.methodLink y.cls ix y').before a0 Z = true) (w2 : (Cond.instanceMethod y').before a0 Z = true) (w3 : (Cond.initialized y'.cls).before a0 Z = true) (w4 : (Cond.code y' bytes' ml' none).before a0 Z = true) (hy : y'.cls ≠ "java/lang/invoke/MethodHandle" ∧ y'.cls ≠ "java/lang/invoke/VarHandle")
    {a : Addr} (con : Con l Z n0 y' [] bytes' ml' none rm (.ref a :: argsL).toArray T.heap Post) (hpd : parseMethodDescriptor y'.desc = some ⟨ps, rt⟩) (hlen : argsL.length = ps.length) (hstk : stk = argsL.reverse ++ .ref a :: st) (hls : ls.size = ml) (hd : decode bytes pc = .ok (.invokespecial ix, 3)) (hpc : pc + 3 = pc')
    (hf : rm.frames + 1 ≤ R.frames) (hW : (st.map fun v => v.category).sum ≤ Wn) (hl : Wn + (ml' + 11) + rm.locals ≤ R.locals) (hkc : kc + rm.cells = kc') (hks : ks + rm.slots = ks') (hc : kc' ≤ R.cells) (hs : ks' ≤ R.slots)
    (K : ∀ T' v, Wk Z y bytes ml ret n0 p l e R s m args below meth c T' kc' ks' → Post v T'.heap → Goes p e below E (T'.setTop (mkF m pc' ls (v.toList ++ st)))) : Goes p e below E (T.setTop (mkF m pc ls stk)) := by
  subst hpc hkc hks hstk
  have hx := W.hx; have hby := W.hby; have hown := W.hown; have hZ := W.hZ; have hml := W.hml
  obtain ⟨A, locs, X, N⟩ := W
  obtain ⟨v, vm1, ⟨T', L', kk, jj⟩, -, X', ⟨Lc, ⟨hN, hQ⟩, l1, l2, l3⟩, st'⟩ := X.specialBack hx (y := y') hin hown (mvT hZ w1) (mvT hZ w2) (mvT hZ w4) hy (backOf (Q := fun v h L => Fr n0 L ∧ Post v h) (W := Wn) con hZ w4 w3 hf hl) (g := mkF m pc ls (argsL.reverse ++ .ref a :: st)) rfl (by rw [hml]; exact hls) (Steps.refl _) (a := a) (argsL := argsL) (rest := st) (lenOf hpd hlen) rfl (by show 2 * 0 + _ ≤ _; omega) (hb hby hd) (fun _ _ => ⟨rfl, rfl, hc, hs⟩)
  dsimp only [Pt.U, Pt.locs, Pt.cells, Pt.slots] at X' l1 l2 l3 hQ st'
  subst l1 l2 l3
  exact (K T' v ⟨A, _, X', N.app hN⟩ hQ).back fun t r => st'.trans r
theorem g_callV (W : Wk Z y bytes ml ret n0 p l e R s m args below meth c T kc ks) {C : String} {fs : List FR} {L : List HRow} {i : Nat} (w1 : (Cond.methodLink y.cls ix y').before a0 Z = true) (w2 : (Cond.declares y').before a0 Z = true) (w3 : (Cond.selects C y' y').before a0 Z = true) (w4 : (Cond.instanceMethod y').before a0 Z = true) (w5 : (Cond.initialized y'.cls).before a0 Z = true) (w6 : (Cond.code y' bytes' ml' ret').before a0 Z = true) (hy : y'.cls ≠ "java/lang/invoke/MethodHandle" ∧ y'.cls ≠ "java/lang/invoke/VarHandle")
    {a : Addr} (H : Hp Z n0 T.heap L) (hi : L[i]? = some (a, ObC Z C fs)) (con : Con l Z n0 y' [] bytes' ml' ret' rm (.ref a :: argsL).toArray T.heap Post) (hpd : parseMethodDescriptor y'.desc = some ⟨ps, rt⟩) (hlen : argsL.length = ps.length) (hstk : stk = argsL.reverse ++ .ref a :: st) (hls : ls.size = ml) (hd : decode bytes pc = .ok (.invokevirtual ix, 3)) (hpc : pc + 3 = pc')
    (hf : rm.frames + 1 ≤ R.frames) (hW : (st.map fun v => v.category).sum ≤ Wn) (hl : Wn + (ml' + 11) + rm.locals ≤ R.locals) (hkc : kc + rm.cells = kc') (hks : ks + rm.slots = ks') (hc : kc' ≤ R.cells) (hs : ks' ≤ R.slots)
    (K : ∀ T' v, Wk Z y bytes ml ret n0 p l e R s m args below meth c T' kc' ks' → Post v T'.heap → Goes p e below E (T'.setTop (mkF m pc' ls (v.toList ++ st)))) : Goes p e below E (T.setTop (mkF m pc ls stk)) := by
  subst hpc hkc hks hstk
  have hx := W.hx; have hby := W.hby; have hown := W.hown; have hZ := W.hZ; have hml := W.hml
  obtain ⟨A, locs, X, N⟩ := W
  obtain ⟨-, cl, q1, q2⟩ := H.get hi
  obtain ⟨cB, kB, b1, b2, b3⟩ := isOf hZ rfl (q2.exa q1)
  obtain ⟨v, vm1, ⟨T', L', kk, jj⟩, -, X', ⟨Lc, ⟨hN, hQ⟩, l1, l2, l3⟩, st'⟩ := X.virtualBack hx (y := y') hown (mvT hZ w1) (mvT hZ w2) (notFace_of_selects (args := #[]) (mvT hZ w3)) (mvT hZ w3) (mvT hZ w4) hy (backOf (Q := fun v h L => Fr n0 L ∧ Post v h) (W := Wn) con hZ w6 w5 hf hl) b1 b3 (g := mkF m pc ls (argsL.reverse ++ .ref a :: st)) rfl (by rw [hml]; exact hls) (Steps.refl _) (argsL := argsL) (rest := st) (lenOf hpd hlen) rfl (by show 2 * 0 + _ ≤ _; omega) (hb hby hd) (fun _ _ => ⟨rfl, rfl, hc, hs⟩)
  dsimp only [Pt.U, Pt.locs, Pt.cells, Pt.slots] at X' l1 l2 l3 hQ st'
  subst l1 l2 l3
  exact (K T' v ⟨A, _, X', N.app hN⟩ hQ).back fun t r => st'.trans r
theorem g_callP (W : Wk Z y bytes ml ret n0 p l e R s m args below meth c T kc ks) {C : String} {fs : List FR} {L : List HRow} {i nn : Nat} (w1 : (Cond.methodLink y.cls ix y').before a0 Z = true) (w2 : (Cond.instanceMethod y').before a0 Z = true) (w3 : (Cond.privateMethod y').before a0 Z = true) (w4 : (Cond.instantiable y'.cls nn).before a0 Z = true) (w5 : (Cond.initialized y'.cls).before a0 Z = true) (w6 : (Cond.code y' bytes' ml' ret').before a0 Z = true) (hy : y'.cls ≠ "java/lang/invoke/MethodHandle" ∧ y'.cls ≠ "java/lang/invoke/VarHandle")
    {a : Addr} (H : Hp Z n0 T.heap L) (hi : L[i]? = some (a, ObC Z C fs)) (con : Con l Z n0 y' [] bytes' ml' ret' rm (.ref a :: argsL).toArray T.heap Post) (hpd : parseMethodDescriptor y'.desc = some ⟨ps, rt⟩) (hlen : argsL.length = ps.length) (hstk : stk = argsL.reverse ++ .ref a :: st) (hls : ls.size = ml) (hd : decode bytes pc = .ok (.invokevirtual ix, 3)) (hpc : pc + 3 = pc')
    (hf : rm.frames + 1 ≤ R.frames) (hW : (st.map fun v => v.category).sum ≤ Wn) (hl : Wn + (ml' + 11) + rm.locals ≤ R.locals) (hkc : kc + rm.cells = kc') (hks : ks + rm.slots = ks') (hc : kc' ≤ R.cells) (hs : ks' ≤ R.slots)
    (K : ∀ T' v, Wk Z y bytes ml ret n0 p l e R s m args below meth c T' kc' ks' → Post v T'.heap → Goes p e below E (T'.setTop (mkF m pc' ls (v.toList ++ st)))) : Goes p e below E (T.setTop (mkF m pc ls stk)) := by
  subst hpc hkc hks hstk
  have hx := W.hx; have hby := W.hby; have hown := W.hown; have hZ := W.hZ; have hml := W.hml
  obtain ⟨A, locs, X, N⟩ := W
  obtain ⟨-, cl, q1, q2⟩ := H.get hi
  have hst : ∀ q, cl.vm ≠ .statics q := fun q hq => by have := q2.2.2.1; rw [hq] at this; cases this
  obtain ⟨mk, methM, hnamed, hmethM, hstM, habM⟩ := Cond.instanceMethod_spec (args := #[]) (mvT hZ w2)
  obtain ⟨methM', cM, hmethM', -, -, -, -, -, -, hsigM⟩ := Cond.code_spec (args := #[]) hnamed (mvT hZ w6)
  cases hmethM.symm.trans hmethM'
  obtain ⟨cP0, kP, hf1, hkP, -, hkPi, -⟩ := Cond.instantiable_spec (mvT hZ w4 (args := #[]))
  cases (findClass_of_methodNamed hnamed).symm.trans hf1
  have hkPi' : kP.isInterface = false := (Bool.or_eq_false_iff.mp hkPi).1
  have hselP : selectMethod e.platform s.vm cl.cls mk = .method mk := selectMethod_private hmethM (Cond.privateMethod_at (mvP hZ w3 (args := #[])) mk methM hnamed hmethM)
  obtain ⟨vm1, X1, hstep1⟩ := X.invokevirtual hx hown (mvT hZ w1) hnamed hmethM hstM hkP hkPi' hy (a := a) (cell := cl) q1 hst hselP hmethM habM hkP hkPi' (g := mkF m pc ls (argsL.reverse ++ .ref a :: st)) rfl (argsL := argsL) (rest := st) (lenOf hpd hlen _ hsigM) rfl (hb hby hd)
  obtain ⟨v, ⟨T', L', kk, jj⟩, X', ⟨Lc, ⟨hN, hQ⟩, l1, l2, l3⟩, st'⟩ := (backOf (Q := fun v h L => Fr n0 L ∧ Post v h) (W := Wn) (len := 3) (p := p) (e := e) (below := below) (args := args) con hZ w6 w5 hf hl) m meth c ⟨T.setVm vm1, locs, kc, ks⟩ (mkF m pc ls st) (.invokevirtual ix) mk (.ref a :: argsL).toArray X1 rfl (by rw [hml]; exact hls) (hb hby hd) (by show 2 * 0 + (st.map fun v => v.category).sum ≤ Wn; omega) (X1.named hnamed) ⟨rfl, rfl, hc, hs⟩
  dsimp only [Pt.U, Pt.locs, Pt.cells, Pt.slots] at X' l1 l2 l3 hQ st'
  subst l1 l2 l3
  exact (K T' v ⟨A, _, X', N.app hN⟩ hQ).back fun t r => ((hstep1 _ fun acts => by rw [doInvoke_state]; exact Steps.refl _).trans st').trans r
end Calls
end Laws
end Jvm.OwnKit


@@BLOCK:NumsL.lean.txt@@
namespace Jvm.OwnKit
open Jvm.Free
/-! ### ints -/
theorem i32_zero {x : Int32} : x.toInt = 0 ↔ x = 0 := ⟨fun h => Int32.toInt_inj.mp (h.trans (by decide)), fun h => by rw [h]; decide⟩
theorem i32_lit {x y : Int32} {k : Int} (h : x.toInt = k) (hy : y.toInt = k) : x = y := Int32.toInt_inj.mp (h.trans hy.symm)
theorem and1 (x : Int32) : x &&& 1 = 0 ∨ x &&& 1 = 1 := by
  have h := Kit.i32_mask x 1 (k := 1) (by decide) (by decide)
  have q : (x &&& 1).toInt = 0 ∨ (x &&& 1).toInt = 1 := by omega
  rcases q with q | q
  · exact Or.inl (i32_lit q (by decide))
  · exact Or.inr (i32_lit q (by decide))
theorem and3 (x : Int32) : x &&& 3 = 0 ∨ x &&& 3 = 1 ∨ x &&& 3 = 2 ∨ x &&& 3 = 3 := by
  have h := Kit.i32_mask x 3 (k := 2) (by decide) (by decide)
  have q : (x &&& 3).toInt = 0 ∨ (x &&& 3).toInt = 1 ∨ (x &&& 3).toInt = 2 ∨ (x &&& 3).toInt = 3 := by omega
  rcases q with q | q | q | q
  · exact Or.inl (i32_lit q (by decide))
  · exact Or.inr (Or.inl (i32_lit q (by decide)))
  · exact Or.inr (Or.inr (Or.inl (i32_lit q (by decide))))
  · exact Or.inr (Or.inr (Or.inr (i32_lit q (by decide))))
theorem i32_remW (x y : Int32) : (x - (x / y) * y).toInt = x.toInt.tmod y.toInt := by
  have a := (x % y).toInt_lt; have b := (x % y).le_toInt
  rw [Int32.toInt_mod] at a b
  rw [Int32.toInt_sub, Int32.toInt_mul, Int32.toInt_div, Int.bmod_mul_bmod, Int.sub_bmod_bmod, Int.mul_comm, ← Int.tmod_def]
  exact Kit.bmod32 b a
theorem i32_remN {x y : Int32} (hx : 0 ≤ x.toInt) : (x - (x / y) * y).toInt = x.toInt % y.toInt := by rw [i32_remW, Int.tmod_eq_emod_of_nonneg hx]
theorem lt1 {j : Int32} (h : ¬ j < 0) (h2 : j < 1) : j = 0 := by
  rw [Int32.lt_iff_toInt_lt] at h h2
  have e0 : (0 : Int32).toInt = 0 := by decide
  have e1 : (1 : Int32).toInt = 1 := by decide
  exact i32_lit (k := 0) (by omega) e0
theorem lt2 {j : Int32} (h : ¬ j < 0) (h2 : j < 2) : j = 0 ∨ j = 1 := by
  rw [Int32.lt_iff_toInt_lt] at h h2
  have e0 : (0 : Int32).toInt = 0 := by decide
  have e1 : (2 : Int32).toInt = 2 := by decide
  have q : j.toInt = 0 ∨ j.toInt = 1 := by omega
  rcases q with q | q
  · exact Or.inl (i32_lit q (by decide))
  · exact Or.inr (i32_lit q (by decide))
theorem lt3 {j : Int32} (h : ¬ j < 0) (h2 : j < 3) : j = 0 ∨ j = 1 ∨ j = 2 := by
  rw [Int32.lt_iff_toInt_lt] at h h2
  have e0 : (0 : Int32).toInt = 0 := by decide
  have e1 : (3 : Int32).toInt = 3 := by decide
  have q : j.toInt = 0 ∨ j.toInt = 1 ∨ j.toInt = 2 := by omega
  rcases q with q | q | q
  · exact Or.inl (i32_lit q (by decide))
  · exact Or.inr (Or.inl (i32_lit q (by decide)))
  · exact Or.inr (Or.inr (i32_lit q (by decide)))
theorem lt0 {j : Int32} {P : Prop} (h : ¬ j < 0) (h2 : j < 0) : P := absurd h2 h
theorem cmpL3 (x y : Int64) : (x < y ∧ XT.cmpL x y = -1) ∨ (x = y ∧ XT.cmpL x y = 0) ∨ (y < x ∧ XT.cmpL x y = 1) := by
  have e : XT.cmpL x y = (if y < x then (1 : Int32) else if x = y then 0 else -1) := rfl
  by_cases h1 : y < x
  · exact Or.inr (Or.inr ⟨h1, by rw [e, if_pos h1]⟩)
  · by_cases h2 : x = y
    · exact Or.inr (Or.inl ⟨h2, by rw [e, if_neg h1, if_pos h2]⟩)
    · refine Or.inl ⟨?_, by rw [e, if_neg h1, if_neg h2]⟩
      rw [Int64.lt_iff_toInt_lt] at h1 ⊢
      have : x.toInt ≠ y.toInt := fun q => h2 (Int64.toInt_inj.mp q)
      omega
theorem cmpL_eq0 {x y : Int64} : XT.cmpL x y = 0 ↔ x = y := by
  rcases cmpL3 x y with ⟨h, g⟩ | ⟨h, g⟩ | ⟨h, g⟩ <;> rw [g]
  · exact ⟨fun q => absurd q (by decide), fun q => by subst q; rw [Int64.lt_iff_toInt_lt] at h; omega⟩
  · exact ⟨fun _ => h, fun _ => rfl⟩
  · exact ⟨fun q => absurd q (by decide), fun q => by subst q; rw [Int64.lt_iff_toInt_lt] at h; omega⟩
theorem cmpL_gt0 {x y : Int64} : (0 : Int32) < XT.cmpL x y ↔ y < x := by
  rcases cmpL3 x y with ⟨h, g⟩ | ⟨h, g⟩ | ⟨h, g⟩ <;> rw [g]
  · exact ⟨fun q => absurd q (by decide), fun q => by rw [Int64.lt_iff_toInt_lt] at h q; omega⟩
  · exact ⟨fun q => absurd q (by decide), fun q => by subst h; rw [Int64.lt_iff_toInt_lt] at q; omega⟩
  · exact ⟨fun _ => h, fun _ => by decide⟩
theorem cmpL_lt0 {x y : Int64} : XT.cmpL x y < (0 : Int32) ↔ x < y := by
  rcases cmpL3 x y with ⟨h, g⟩ | ⟨h, g⟩ | ⟨h, g⟩ <;> rw [g]
  · exact ⟨fun _ => h, fun _ => by decide⟩
  · exact ⟨fun q => absurd q (by decide), fun q => by subst h; rw [Int64.lt_iff_toInt_lt] at q; omega⟩
  · exact ⟨fun q => absurd q (by decide), fun q => by rw [Int64.lt_iff_toInt_lt] at h q; omega⟩
end Jvm.OwnKit

namespace Jvm.OwnKit
open Jvm.FP.Core Jvm.Free.Fl Jvm.Op Jvm.ClassFile
/-! ### exact doubles: a is n * 2^e -/
def Dy (n e : Int) (a : UInt64) : Prop := DFin a ∧ zval b64 (val64 a) = n * ((2 ^ (e + 1074).toNat : Nat) : Int)
theorem pw3 {A B X1 Y1 X Y : Nat} (h : A * 2 ^ X1 = B * 2 ^ Y1) (hd : X + Y1 = X1 + Y) : A * 2 ^ X = B * 2 ^ Y := by
  apply Nat.eq_of_mul_eq_mul_right (Nat.two_pow_pos X1)
  calc A * 2 ^ X * 2 ^ X1 = A * 2 ^ X1 * 2 ^ X := by rw [Nat.mul_right_comm]
    _ = B * 2 ^ Y1 * 2 ^ X := by rw [h]
    _ = B * 2 ^ Y * 2 ^ X1 := by rw [Nat.mul_assoc, Nat.mul_assoc, ← Nat.pow_add, ← Nat.pow_add, show Y1 + X = Y + X1 by omega]
theorem rr_exact {s : Bool} {A B n : Nat} {e q : Int} (hB : 0 < B) (hn : n < 2 ^ 53) (h1 : -1074 ≤ q) (h2 : q ≤ 971) (h : A * 2 ^ (e - q).toNat = n * B * 2 ^ (q - e).toNat) :
    ∃ c' q', roundRatio b64 s A B e = .fin s c' q' ∧ inUnits c' q' b64.qmin = n * 2 ^ (q + 1074).toNat := by
  have hc : roundRatio b64 s A B e = roundRatio b64 s n 1 q := roundRatio_congr hB (by decide) (by rw [Nat.mul_one]; exact h)
  obtain ⟨c', q', g1, g2⟩ := round_exact good_b64 s (c := n) (q := q) (show n < 2 ^ 53 from hn) (by rw [qmin_b64]; exact h1) (by rw [show b64.qmax = 971 by decide]; exact h2)
  refine ⟨c', q', hc.trans g1, g2.trans ?_⟩
  unfold inUnits; rw [qmin_b64, show (q - -1074).toNat = (q + 1074).toNat by omega]
theorem dy_rr {a : UInt64} {s : Bool} {A B n : Nat} {e q : Int} (ha : val64 a = roundRatio b64 s A B e) (hB : 0 < B) (hn : n < 2 ^ 53) (h1 : -1074 ≤ q) (h2 : q ≤ 971) (h : A * 2 ^ (e - q).toNat = n * B * 2 ^ (q - e).toNat) : Dy (signed s n) q a := by
  obtain ⟨c', q', g1, g2⟩ := rr_exact (s := s) hB hn h1 h2 h
  rw [g1] at ha
  refine ⟨⟨s, c', q', ha⟩, ?_⟩
  rw [ha]; show signed s (inUnits c' q' b64.qmin) = _; rw [g2, signed_mul]
theorem signed_back {s : Bool} {X P : Nat} {n : Int} (hP : 0 < P) (h : signed s X = n * (P : Int)) : signed s n.natAbs = n := by
  have hP' : (0 : Int) < P := Int.natCast_pos.mpr hP
  cases s
  · have h' : (X : Int) = n * P := h
    have : 0 ≤ n := Int.not_lt.mp fun q => by have := Int.mul_neg_of_neg_of_pos q hP'; omega
    show (n.natAbs : Int) = n; omega
  · have h' : -(X : Int) = n * P := h
    have : n ≤ 0 := Int.not_lt.mp fun q => by have := Int.mul_pos q hP'; omega
    show -(n.natAbs : Int) = n; omega
theorem dy_open {n e : Int} {a : UInt64} (ha : Dy n e a) : ∃ s c q, val64 a = .fin s c q ∧ -1074 ≤ q ∧ Jvm.FP.Core.fits b64 (.fin s c q) ∧ c * 2 ^ (q + 1074).toNat = n.natAbs * 2 ^ (e + 1074).toNat ∧ signed s n.natAbs = n := by
  obtain ⟨⟨s, c, q, hv⟩, hz⟩ := ha
  have hfit := val64_fits a
  rw [hv] at hfit hz
  have hq : -1074 ≤ q := by have := hfit.2.1; rwa [qmin_b64] at this
  have hz1 : signed s (inUnits c q b64.qmin) = n * ((2 ^ (e + 1074).toNat : Nat) : Int) := hz
  have hz2 := congrArg Int.natAbs hz1
  rw [natAbs_signed, Int.natAbs_mul, Int.natAbs_natCast] at hz2
  refine ⟨s, c, q, hv, hq, hfit, ?_, signed_back (Nat.two_pow_pos _) hz1⟩
  rw [← hz2]; unfold inUnits; rw [qmin_b64, show (q - -1074).toNat = (q + 1074).toNat by omega]
theorem quo_fin {s t : Bool} {c d : Nat} {q r : Int} (hd : d ≠ 0) : quotient b64 (.fin s c q) (.fin t d r) = roundRatio b64 (s != t) c d (q - r) := if_neg hd
theorem dy_div {n e k : Int} {a b : UInt64} (ha : Dy n e a) (he : -1074 ≤ e) (hb : val64 b = .fin false (2 ^ 52) (k - 52)) (hn : n.natAbs < 2 ^ 53) (h1 : -1074 ≤ e - k) (h2 : e - k ≤ 971) : Dy n (e - k) (FP.ddiv a b) := by
  obtain ⟨s, c, q, hv, hq, hfit, hz, hs⟩ := dy_open ha
  have hd : val64 (FP.ddiv a b) = roundRatio b64 s c (2 ^ 52) (q - (k - 52)) := by
    rw [show val64 (FP.ddiv a b) = _ from val64_ddiv a b, hv, hb]
    rw [quo_fin (by decide), show (s != false) = s by cases s <;> rfl]
  have := dy_rr hd (n := n.natAbs) (q := e - k) (by decide) hn h1 h2 (by
    rw [Nat.mul_assoc, ← Nat.pow_add]
    exact pw3 hz (by omega))
  rwa [hs] at this
theorem dy_mul {n e m f : Int} {a b : UInt64} (ha : Dy n e a) (hb : Dy m f b) (he : -1074 ≤ e) (hf : -1074 ≤ f) (hn : (n * m).natAbs < 2 ^ 53) (h1 : -1074 ≤ e + f) (h2 : e + f ≤ 971) : Dy (n * m) (e + f) (FP.dmul a b) := by
  obtain ⟨s, c, q, hv, hq, hfit, hz, hs⟩ := dy_open ha
  obtain ⟨t, d, r, hw, hr, hfit2, hz2, ht⟩ := dy_open hb
  have hd : val64 (FP.dmul a b) = roundRatio b64 (s != t) (c * d) 1 (q + r) := by
    rw [show val64 (FP.dmul a b) = _ from val64_dmul a b, hv, hw]; rfl
  have hp : c * d * 2 ^ ((q + 1074).toNat + (r + 1074).toNat) = (n * m).natAbs * 2 ^ ((e + 1074).toNat + (f + 1074).toNat) := by
    rw [Nat.pow_add, Nat.mul_mul_mul_comm, hz, hz2, Int.natAbs_mul, Nat.pow_add, Nat.mul_mul_mul_comm]
  have := dy_rr hd (n := (n * m).natAbs) (q := e + f) (by decide) hn h1 h2 (by
    rw [Nat.mul_one]
    exact pw3 hp (by omega))
  rw [Int.natAbs_mul, signed_xor, hs, ht] at this
  exact this
theorem dy_addG {n e m k : Int} {t : Nat} {a b : UInt64} (ha : Dy n e a) (hb : Dy m e b) (hnm : n + m = k * ((2 ^ t : Nat) : Int)) (hk : k.natAbs < 2 ^ 53) (h1 : -1074 ≤ e) (h2 : e + t ≤ 971) : Dy k (e + t) (FP.dadd a b) := by
  obtain ⟨⟨s, c, q, hv⟩, hz⟩ := ha
  obtain ⟨⟨s2, d, r, hw⟩, hz2⟩ := hb
  have f1 := val64_fits a
  have f2 := val64_fits b
  rw [hv] at f1 hz
  rw [hw] at f2 hz2
  obtain ⟨sg, N, E, g1, g2, g3⟩ := sum_units f1 f2
  rw [qmin_b64] at g2
  rw [hz, hz2, ← Int.add_mul, hnm, Int.mul_assoc, ← Int.natCast_mul, ← Nat.pow_add] at g3
  have hd : val64 (FP.dadd a b) = roundRatio b64 sg N 1 E := by
    rw [show val64 (FP.dadd a b) = _ from val64_dadd a b, hv, hw, g1]; rfl
  have g4 := congrArg Int.natAbs g3
  rw [natAbs_signed, Int.natAbs_mul, Int.natAbs_natCast] at g4
  unfold inUnits at g4
  rw [qmin_b64] at g4
  have := dy_rr hd (n := k.natAbs) (q := e + t) (by decide) hk (by omega) h2 (by
    rw [Nat.mul_one]
    exact pw3 g4 (by omega))
  rwa [signed_back (Nat.two_pow_pos _) g3] at this
theorem dy_add {n e m : Int} {a b : UInt64} (ha : Dy n e a) (hb : Dy m e b) (hn : (n + m).natAbs < 2 ^ 53) (h1 : -1074 ≤ e) (h2 : e ≤ 971) : Dy (n + m) e (FP.dadd a b) := by
  have := dy_addG (t := 0) ha hb (by rw [show ((2 ^ 0 : Nat) : Int) = 1 from rfl, Int.mul_one]) hn h1 (by omega)
  rwa [show e + ((0 : Nat) : Int) = e by omega] at this
theorem dy_re {n e : Int} {a : UInt64} (ha : Dy n e a) (k : Nat) (h : -1074 ≤ e - k) : Dy (n * ((2 ^ k : Nat) : Int)) (e - k) a := by
  refine ⟨ha.1, ha.2.trans ?_⟩
  rw [Int.mul_assoc, ← Int.natCast_mul, ← Nat.pow_add, show k + (e - k + 1074).toNat = (e + 1074).toNat by omega]
theorem dy_fin {a : UInt64} {s : Bool} {c : Nat} {q : Int} (h : val64 a = .fin s c q) : Dy (signed s c) q a := by
  have hf := val64_fits a
  rw [h] at hf
  have hq := hf.2.1
  rw [qmin_b64] at hq
  refine ⟨⟨s, c, q, h⟩, ?_⟩
  rw [h]; show signed s (inUnits c q b64.qmin) = _
  unfold inUnits
  rw [qmin_b64, signed_mul, show (q - -1074).toNat = (q + 1074).toNat by omega]
theorem dy_i2d (x : Int32) : Dy x.toInt 0 (FP.i2d x) := ⟨Jvm.FP.Core.i2d_fin x, DInt_zval (i2d_int x)⟩
theorem dy_l2d {x : Int64} (h : x.toInt.natAbs ≤ 2 ^ 53) : Dy x.toInt 0 (FP.l2d x) := ⟨Jvm.FP.Core.l2d_fin x, DInt_zval (l2d_int h)⟩
theorem dy_zero : Dy 0 0 0 := ⟨⟨false, 0, b64.qmin, val64_zero⟩, by rw [zval64_zero, Int.zero_mul]⟩
theorem Dy.fin {n e : Int} {a : UInt64} (h : Dy n e a) : Fin64 a := fin64_core.mpr h.1
theorem Dy.nn {n e : Int} {a : UInt64} (h : Dy n e a) : NoNaN64 a := h.fin.noNaN
theorem dy_cmp {n m e : Int} {a b : UInt64} (ha : Dy n e a) (hb : Dy m e b) : FP.dcmp a b = some (compare n m) := by
  have := dcmp_zval (DFin.ne_nan ha.1) (DFin.ne_nan hb.1)
  rw [ha.2, hb.2, compare_mul_pos _ _ _ (Int.natCast_pos.mpr (Nat.two_pow_pos _))] at this
  exact this
theorem cv_lt {n m : Int} (h : n < m) (o : CmpOp) : cmpValue (some (compare n m)) o = -1 := by rw [(compare_lt_iff n m).mpr h]; rfl
theorem cv_eq {n m : Int} (h : n = m) (o : CmpOp) : cmpValue (some (compare n m)) o = 0 := by rw [(compare_eq_iff n m).mpr h]; rfl
theorem cv_gt {n m : Int} (h : m < n) (o : CmpOp) : cmpValue (some (compare n m)) o = 1 := by rw [(compare_gt_iff n m).mpr h]; rfl
theorem cv3 (n m : Int) (o : CmpOp) : (n < m ∧ cmpValue (some (compare n m)) o = -1) ∨ (n = m ∧ cmpValue (some (compare n m)) o = 0) ∨ (m < n ∧ cmpValue (some (compare n m)) o = 1) := by
  rcases Int.lt_trichotomy n m with h | h | h
  · exact Or.inl ⟨h, cv_lt h o⟩
  · exact Or.inr (Or.inl ⟨h, cv_eq h o⟩)
  · exact Or.inr (Or.inr ⟨h, cv_gt h o⟩)
theorem dy_eq0 {n m e : Int} {a b : UInt64} (ha : Dy n e a) (hb : Dy m e b) (o : CmpOp) : cmpValue (FP.dcmp a b) o = 0 ↔ n = m := by
  rw [dy_cmp ha hb]; rcases cv3 n m o with ⟨h, g⟩ | ⟨h, g⟩ | ⟨h, g⟩ <;> rw [g]
  · exact ⟨fun q => absurd q (by decide), fun q => by omega⟩
  · exact ⟨fun _ => h, fun _ => rfl⟩
  · exact ⟨fun q => absurd q (by decide), fun q => by omega⟩
theorem dy_gt0 {n m e : Int} {a b : UInt64} (ha : Dy n e a) (hb : Dy m e b) (o : CmpOp) : 0 < cmpValue (FP.dcmp a b) o ↔ m < n := by
  rw [dy_cmp ha hb]; rcases cv3 n m o with ⟨h, g⟩ | ⟨h, g⟩ | ⟨h, g⟩ <;> rw [g]
  · exact ⟨fun q => absurd q (by decide), fun q => by omega⟩
  · exact ⟨fun q => absurd q (by decide), fun q => by omega⟩
  · exact ⟨fun _ => h, fun _ => by decide⟩
theorem dy_lt0 {n m e : Int} {a b : UInt64} (ha : Dy n e a) (hb : Dy m e b) (o : CmpOp) : cmpValue (FP.dcmp a b) o < 0 ↔ n < m := by
  rw [dy_cmp ha hb]; rcases cv3 n m o with ⟨h, g⟩ | ⟨h, g⟩ | ⟨h, g⟩ <;> rw [g]
  · exact ⟨fun _ => h, fun _ => by decide⟩
  · exact ⟨fun q => absurd q (by decide), fun q => by omega⟩
  · exact ⟨fun q => absurd q (by decide), fun q => by omega⟩
end Jvm.OwnKit

namespace Jvm.OwnKit
open Jvm.FP.Core Jvm.Free.Fl Jvm.Op Jvm.ClassFile
theorem sgn_quot {s u : Bool} {n m k : Int} {P : Nat} (hP : 0 < P) (hs : signed s n.natAbs = n) (hu : signed u m.natAbs = m) (hm : m ≠ 0) (h : n * (P : Int) = k * m) : signed (s != u) k.natAbs = k := by
  have hP' : (0 : Int) < P := Int.natCast_pos.mpr hP
  have np : 0 ≤ n → 0 ≤ n * (P : Int) := fun q => Int.mul_nonneg q (Int.le_of_lt hP')
  have nn : n ≤ 0 → n * (P : Int) ≤ 0 := fun q => Int.mul_nonpos_of_nonpos_of_nonneg q (Int.le_of_lt hP')
  have k1 : 0 < k → 0 < m → 0 < k * m := fun a b => Int.mul_pos a b
  have k2 : k < 0 → 0 < m → k * m < 0 := fun a b => Int.mul_neg_of_neg_of_pos a b
  have k3 : 0 < k → m < 0 → k * m < 0 := fun a b => Int.mul_neg_of_pos_of_neg a b
  have k4 : k < 0 → m < 0 → 0 < k * m := fun a b => Int.mul_pos_of_neg_of_neg a b
  cases s <;> cases u <;> simp only [signed, if_true, Bool.false_eq_true, if_false, bne_self_eq_false] at hs hu ⊢
  · show (k.natAbs : Int) = k
    have := np (by omega)
    rcases Int.lt_trichotomy k 0 with q | q | q
    · have := k2 q (by omega); omega
    · omega
    · omega
  · show -(k.natAbs : Int) = k
    have := np (by omega)
    rcases Int.lt_trichotomy k 0 with q | q | q
    · omega
    · omega
    · have := k3 q (by omega); omega
  · show -(k.natAbs : Int) = k
    have := nn (by omega)
    rcases Int.lt_trichotomy k 0 with q | q | q
    · omega
    · omega
    · have := k1 q (by omega); omega
  · show (k.natAbs : Int) = k
    have := nn (by omega)
    rcases Int.lt_trichotomy k 0 with q | q | q
    · have := k4 q (by omega); omega
    · omega
    · omega
theorem dy_quot {n e m f : Int} {a b : UInt64} (ha : Dy n e a) (hb : Dy m f b) (hf : -1074 ≤ f) (hm : m ≠ 0) : ∃ s u c d q r, val64 (FP.ddiv a b) = roundRatio b64 (s != u) c d (q - r) ∧ 0 < d ∧ -1074 ≤ q ∧ -1074 ≤ r ∧ c * 2 ^ (q + 1074).toNat = n.natAbs * 2 ^ (e + 1074).toNat ∧ d * 2 ^ (r + 1074).toNat = m.natAbs * 2 ^ (f + 1074).toNat ∧ signed s n.natAbs = n ∧ signed u m.natAbs = m := by
  obtain ⟨s, c, q, hv, hq, -, hz, hs⟩ := dy_open ha
  obtain ⟨u, d, r, hw, hr, -, hz2, hu⟩ := dy_open hb
  have hd0 : d ≠ 0 := fun z => by
    subst z
    rw [Nat.zero_mul] at hz2
    have h1 : 0 < m.natAbs := by omega
    have := Nat.mul_pos h1 (Nat.two_pow_pos (f + 1074).toNat)
    omega
  refine ⟨s, u, c, d, q, r, ?_, Nat.pos_of_ne_zero hd0, hq, hr, hz, hz2, hs, hu⟩
  rw [show val64 (FP.ddiv a b) = _ from val64_ddiv a b, hv, hw]
  exact quo_fin hd0
theorem dy_divG {n e m f k : Int} {t : Nat} {a b : UInt64} (ha : Dy n e a) (hb : Dy m f b) (he : -1074 ≤ e) (hf : -1074 ≤ f) (hm : m ≠ 0) (hk : n * ((2 ^ t : Nat) : Int) = k * m) (hkb : k.natAbs < 2 ^ 53) (h1 : -1074 ≤ e - f - t) (h2 : e - f - t ≤ 971) : Dy k (e - f - t) (FP.ddiv a b) := by
  obtain ⟨s, u, c, d, q, r, hv, hd0, hq, hr, hz, hz2, hs, hu⟩ := dy_quot ha hb hf hm
  have hk' := congrArg Int.natAbs hk
  rw [Int.natAbs_mul, Int.natAbs_mul, Int.natAbs_natCast] at hk'
  have key : c * 2 ^ ((q + 1074).toNat + t + (f + 1074).toNat) = k.natAbs * d * 2 ^ ((r + 1074).toNat + (e + 1074).toNat) := by
    calc c * 2 ^ ((q + 1074).toNat + t + (f + 1074).toNat) = c * 2 ^ (q + 1074).toNat * 2 ^ t * 2 ^ (f + 1074).toNat := by rw [Nat.pow_add, Nat.pow_add, ← Nat.mul_assoc, ← Nat.mul_assoc]
      _ = n.natAbs * 2 ^ t * 2 ^ (e + 1074).toNat * 2 ^ (f + 1074).toNat := by rw [hz, Nat.mul_right_comm n.natAbs]
      _ = k.natAbs * (m.natAbs * 2 ^ (f + 1074).toNat) * 2 ^ (e + 1074).toNat := by rw [hk', Nat.mul_right_comm, ← Nat.mul_assoc]
      _ = k.natAbs * d * 2 ^ ((r + 1074).toNat + (e + 1074).toNat) := by rw [← hz2, Nat.pow_add, ← Nat.mul_assoc, ← Nat.mul_assoc]
  have := dy_rr hv (n := k.natAbs) (q := e - f - t) hd0 hkb h1 h2 (pw3 key (by omega))
  rwa [sgn_quot (Nat.two_pow_pos t) hs hu hm hk] at this
theorem dy_mulG {n e m f k : Int} {t : Nat} {a b : UInt64} (ha : Dy n e a) (hb : Dy m f b) (he : -1074 ≤ e) (hf : -1074 ≤ f) (hk : n * m = k * ((2 ^ t : Nat) : Int)) (hkb : k.natAbs < 2 ^ 53) (h1 : -1074 ≤ e + f + t) (h2 : e + f + t ≤ 971) : Dy k (e + f + t) (FP.dmul a b) := by
  obtain ⟨s, c, q, hv, hq, hfit, hz, hs⟩ := dy_open ha
  obtain ⟨u, d, r, hw, hr, hfit2, hz2, hu⟩ := dy_open hb
  have hd : val64 (FP.dmul a b) = roundRatio b64 (s != u) (c * d) 1 (q + r) := by
    rw [show val64 (FP.dmul a b) = _ from val64_dmul a b, hv, hw]; rfl
  have hk' := congrArg Int.natAbs hk
  rw [Int.natAbs_mul, Int.natAbs_mul, Int.natAbs_natCast] at hk'
  have hp : c * d * 2 ^ ((q + 1074).toNat + (r + 1074).toNat) = k.natAbs * 2 ^ (t + ((e + 1074).toNat + (f + 1074).toNat)) := by
    rw [Nat.pow_add, Nat.mul_mul_mul_comm, hz, hz2, Nat.mul_mul_mul_comm, ← Nat.pow_add, hk', Nat.mul_assoc, ← Nat.pow_add]
  have := dy_rr hd (n := k.natAbs) (q := e + f + t) (by decide) hkb h1 h2 (by
    rw [Nat.mul_one]
    exact pw3 hp (by omega))
  have hsg : signed (s != u) k.natAbs = k := by
    refine signed_back (X := n.natAbs * m.natAbs) (P := 2 ^ t) (Nat.two_pow_pos t) ?_
    rw [signed_xor, hs, hu, hk]
  rwa [hsg] at this
/-- the rounded quotient of two whole numbers lies between the whole numbers around the true one -/
theorem quot_between {p d : Int} {T : Nat} {a b : UInt64} (ha : Dy p 0 a) (hb : Dy d 0 b) (hd : d ≠ 0) (hp : p ≠ 0) (hT : T + 1 ≤ 2 ^ 53) (h1 : T * d.natAbs ≤ p.natAbs) (h2 : p.natAbs ≤ (T + 1) * d.natAbs) :
    Fin64 (FP.ddiv a b) ∧ ∃ zm : Nat, T * one64 ≤ zm ∧ zm ≤ (T + 1) * one64 ∧ ((p < 0 ↔ d < 0) → zval b64 (val64 (FP.ddiv a b)) = zm) ∧ (¬ (p < 0 ↔ d < 0) → zval b64 (val64 (FP.ddiv a b)) = -(zm : Int)) := by
  obtain ⟨s, u, c, d', q, r, hv, hd0, hq, hr, hz, hz2, hs, hu⟩ := dy_quot ha hb (by decide) hd
  have V : ∀ n : Nat, n ≤ 2 ^ 53 → ∃ w : UInt64, val64 w ≠ .nan ∧ zmag b64 (val64 w) = n * one64 := fun n hn => by
    have hl : (Int64.ofNat n).toInt = (n : Int) := Int64.toInt_ofNat_of_lt (by omega)
    have hi := l2d_int (a := Int64.ofNat n) (by rw [hl]; omega)
    have hz := DInt_zval hi
    refine ⟨_, DInt_ne_nan hi, ?_⟩
    have := congrArg Int.natAbs hz
    unfold zval at this
    rw [natAbs_signed, hl, Int.natAbs_mul, Int.natAbs_natCast, Int.natAbs_natCast] at this
    exact this
  obtain ⟨w1, n1, m1⟩ := V T (by omega)
  obtain ⟨w2, n2, m2⟩ := V (T + 1) hT
  have scale : ∀ N : Nat, N * one64 * 2 ^ (b64.qmin - min (-1074) (q - r)).toNat * d' * 2 ^ (r + 1074).toNat = N * d.natAbs * 2 ^ (1074 + 1074 + (-1074 - min (-1074) (q - r)).toNat) := fun N => by
    rw [qmin_b64]
    calc N * one64 * 2 ^ (-1074 - min (-1074) (q - r)).toNat * d' * 2 ^ (r + 1074).toNat = N * one64 * 2 ^ (-1074 - min (-1074) (q - r)).toNat * (d' * 2 ^ (r + 1074).toNat) := by rw [Nat.mul_assoc]
      _ = N * 2 ^ 1074 * 2 ^ (-1074 - min (-1074) (q - r)).toNat * (d.natAbs * 2 ^ 1074) := by rw [hz2]; rfl
      _ = N * d.natAbs * 2 ^ (1074 + 1074 + (-1074 - min (-1074) (q - r)).toNat) := by
        rw [Nat.mul_assoc N, ← Nat.pow_add, Nat.mul_mul_mul_comm, ← Nat.pow_add, show 1074 + (-1074 - min (-1074) (q - r)).toNat + 1074 = 1074 + 1074 + (-1074 - min (-1074) (q - r)).toNat by omega]
  have scale2 : inUnits c (q - r) (min (-1074) (q - r)) * 2 ^ (r + 1074).toNat = p.natAbs * 2 ^ (1074 + 1074 + (-1074 - min (-1074) (q - r)).toNat) := by
    unfold inUnits
    rw [Nat.mul_assoc, ← Nat.pow_add]
    exact pw3 hz (by omega)
  have g1 := zmag_roundRatio_ge good_b64 (s := s != u) (A := c) (B := d') (e := q - r) (e0 := min (-1074) (q - r)) (V := val64 w1) hd0 (val64_fits w1) (by rw [qmin_b64]; omega) (by omega) (by
    rw [m1]
    refine Nat.le_of_mul_le_mul_right ?_ (Nat.two_pow_pos (r + 1074).toNat)
    rw [scale T, scale2]
    exact Nat.mul_le_mul_right _ h1)
  have g2 := zmag_roundRatio_le good_b64 (s := s != u) (A := c) (B := d') (e := q - r) (e0 := min (-1074) (q - r)) (V := val64 w2) hd0 (val64_fits w2) n2 (by rw [qmin_b64]; omega) (by omega) (by
    rw [m2]
    refine Nat.le_of_mul_le_mul_right ?_ (Nat.two_pow_pos (r + 1074).toNat)
    rw [scale (T + 1), scale2]
    exact Nat.mul_le_mul_right _ h2)
  rw [m1, ← hv] at g1
  rw [m2, ← hv] at g2
  have hnan : val64 (FP.ddiv a b) ≠ .nan := by rw [hv]; exact fun z => roundRatio_ne_nan _ _ _ _ _ z
  have hsg : sgn (val64 (FP.ddiv a b)) = (s != u) := by rw [hv]; exact sgn_roundRatio ..
  have sp : s = decide (p < 0) := by cases s <;> simp [signed] at hs ⊢ <;> omega
  have su : u = decide (d < 0) := by cases u <;> simp [signed] at hu ⊢ <;> omega
  have hfin : Fin64 (FP.ddiv a b) := by
    rw [fin64_core]
    rcases roundRatio_cases b64 (s != u) c d' (q - r) with ⟨c', q', hc⟩ | hc
    · exact ⟨_, c', q', hv.trans hc⟩
    · exfalso
      rw [hv, hc] at g2
      have : zmag b64 (.inf (s != u)) = b64.tails * 2 ^ (b64.exps - 2) := rfl
      rw [this] at g2
      have e1 : (T + 1) * one64 ≤ 2 ^ 53 * 2 ^ 1074 := by rw [show one64 = 2 ^ 1074 from rfl]; exact Nat.mul_le_mul hT (Nat.le_refl _)
      have e2 : b64.tails * 2 ^ (b64.exps - 2) = 2 ^ 52 * 2 ^ 2046 := by rw [show b64.tails = 2 ^ 52 by decide, show b64.exps - 2 = 2046 by decide]
      rw [e2] at g2
      rw [← Nat.pow_add] at g2 e1
      have e3 : (2 : Nat) ^ (53 + 1074) < 2 ^ (52 + 2046) := Nat.pow_lt_pow_right (by decide) (by decide)
      omega
  refine ⟨hfin, zmag b64 (val64 (FP.ddiv a b)), g1, g2, fun hsame => ?_, fun hdiff => ?_⟩
  · unfold zval
    rw [hsg, sp, su, show (decide (p < 0) != decide (d < 0)) = false by rw [decide_eq_decide.mpr hsame]; exact bne_self_eq_false _]
    rfl
  · unfold zval
    rw [hsg, sp, su, show (decide (p < 0) != decide (d < 0)) = true from bne_iff_ne.mpr fun q => hdiff (decide_eq_decide.mp q)]
    rfl
end Jvm.OwnKit

namespace Jvm.OwnKit
open Sem ClassFile Op Lib Jvm.Stand Jvm.Free Jvm.LawKit Jvm.RoadKit Jvm.Free.Fl
/-- the end of a road that may have loaded a String constant cold: the wide frame -/
def EnW (s : State) (n0 k j : Nat) (Q : Option Value → Heap → Prop) (v : Option Value) (s₂ : State) (L : List Loc) : Prop := (Fr n0 L ∧ Q v s₂.heap) ∧ ReturnedEndW s (.returned v) s₂ L k j
def ConW (l : Launch) (Z : State) (n0 : Nat) (y : MethodName) (ws : List Cond) (bytes : ByteArray) (ml : Nat) (ret : Option FieldType) (rm : Room) (as : Array Value) (h0 : Heap) (Post : Option Value → Heap → Prop) : Prop :=
  MetFree l y (head1 (Cond.code y bytes ml ret :: ws) rm) (fun a U => a = as ∧ Z.Warmed39 U.vm ∧ U.heap = h0) (fun _ _ _ _ _ => True) (fun _ U o U' => ∃ v L, o = .returned v ∧ (Fr n0 L ∧ Post v U'.heap) ∧ ReturnedEndW U o U' L rm.cells rm.slots)
section Ldc
variable {Z : State} {y : MethodName} {bytes : ByteArray} {ml : Nat} {ret : Option FieldType} {n0 : Nat} {p : Program} {l : Launch} {e : Env} {R : Room} {s : State} {m : MethodId} {args : Array Value} {below : List Frame} {meth : Method} {c : Code} {T : State} {kc ks k j : Nat} {Q : Option Value → Heap → Prop} {pc pc' : Nat} {ls : Array Slot} {st : List Value} {a0 : Array Value}
theorem conW_of {ws : List Cond} {rm : Room} {as : Array Value} {h0 : Heap} {Post : Option Value → Heap → Prop} (hpn : plainFor y = true)
    (body : ∀ (p : Program) (e : Env) (s : State) (m : MethodId) (below : List Frame) (meth : Method) (c : Code) (T : State), Wk Z y bytes ml ret n0 p l e rm s m as below meth c T 0 0 → T.heap = h0 → Goes p e below (EnW s n0 rm.cells rm.slots Post) (T.setTop (entryFrame m as ml))) :
    ConW l Z n0 y ws bytes ml ret rm as h0 Post := by
  refine MetFree.of_bodySF hpn hisR ?_
  intro p e s m args below meth c s₁ Bd hml0 hP hK
  obtain ⟨rfl, hZ, hh⟩ := hP
  obtain ⟨s₂, v, L, g1, g2, g3, g4, g5⟩ := body p e s m below meth c s₁ ⟨⟨Bd.exec, hZ, findClass_of_methodNamed Bd.named, Bd.bytes, hml0, Bd.returns, Bd.notSynchronized, (name_of_methodNamed Bd.named Bd.method).1⟩, [], Stand.of_body Bd, Fr.nil n0⟩ (by rw [← hh, Bd.state]; rfl)
  exact ⟨s₂, _, g1, g2, g3, v, L, rfl, g4, g5⟩
theorem g_ldcStr (W : Wk Z y bytes ml ret n0 p l e R s m args below meth c T kc ks) {ix n : Nat} {text : String} {L : List HRow} (w : (Cond.stringLink y.cls ix text).before a0 Z = true) (wS : ∀ a ∈ Bundle.stringAtoms, a.before a0 Z = true) (H : Hp Z n0 T.heap L) (hn : 4 * text.toList.length ≤ n) (hbig : n ≤ 536870912) (hd : decode bytes pc = .ok (.ldc ix, 2)) (hpc : pc + 2 = pc')
    {kc' ks' : Nat} (hkc : kc + 2 = kc') (hks : ks + (n + 4) = ks') (hc : kc' ≤ R.cells) (hl : ks' ≤ R.slots)
    (K : ∀ s' T' a F, Wk Z y bytes ml ret n0 p l e R s' m args below meth c T' kc' ks' → Hp Z n0 T'.heap (L ++ F) → (∀ (h : Heap) (L2 : List HRow), Hp Z n0 h (L2 ++ F) → (∀ x ∈ L.map (·.1), x ∈ L2.map (·.1)) → T'.heap.size ≤ h.size) →
      Goes p e below (En s' n0 k j (fun v h => Q v h ∧ T'.heap.size ≤ h.size)) (T'.setTop (mkF m pc' ls (.ref a :: st)))) : Goes p e below (EnW s n0 k j Q) (T.setTop (mkF m pc ls st)) := by
  subst hpc hkc hks
  have hx := W.hx; have hby := W.hby; have hown := W.hown; have hZ := W.hZ
  obtain ⟨A, locs, X, N⟩ := W
  obtain ⟨a, T2, X', hS', -, hbb, -, st'⟩ := X.ldcStringCold hx hown (text := text) (by have := mvS (s := s) (args := args) hZ w; exact this) (fun d hd => by
    have q := wS d hd
    simp only [Bundle.stringAtoms, List.mem_cons, List.not_mem_nil, or_false] at hd
    rcases hd with rfl | rfl | rfl | rfl | rfl | rfl | rfl
    · exact mv hZ q
    · exact mv hZ q
    · exact mvA hZ q
    · exact mv hZ q
    · exact mv hZ q
    · exact mv hZ q
    · exact mv hZ q) (g := mkF m pc ls st) rfl (hb hby hd) hn hbig hc hl
  have E := ext_of hbb
  have W' : Wk Z y bytes ml ret n0 p l e R (s.setVm T2.vm) m args below meth c T2 (kc + 2) (ks + (n + 4)) :=
    ⟨⟨A.1, State.Warmed39.trans (t := s) hZ hS'.1, by rw [show (s.setVm T2.vm).vm = T2.vm from rfl, hS'.1.alike.findClass]; exact hown, A.2.2.2⟩, locs, X', N⟩
  have HL : Hp Z n0 T2.heap L := ⟨H.1.ext E, H.2.1, fun r hr => by
    obtain ⟨g1, c1, g2, g3⟩ := H.2.2 r hr
    exact ⟨g1, c1, E.2 _ _ g2, g3⟩⟩
  have fin : ∀ F, Hp Z n0 T2.heap (L ++ F) → (∀ (h : Heap) (L2 : List HRow), Hp Z n0 h (L2 ++ F) → (∀ x ∈ L.map (·.1), x ∈ L2.map (·.1)) → T2.heap.size ≤ h.size) → Goes p e below (EnW s n0 k j Q) (T.setTop (mkF m pc ls st)) := fun F hF hsz => by
    obtain ⟨s₂, v, Lc, g1, g2, g3, ⟨g4, g5, g6⟩, g7⟩ := K _ T2 a F W' hF hsz
    obtain ⟨-, hW2, hs2⟩ := g7
    obtain ⟨r1, r2, r3⟩ := hS'.ended (U := s₂) hW2 g6 hs2
    exact ⟨s₂, v, Lc, st' _ g1, g2, g3, ⟨g4, g5⟩, ⟨v, rfl⟩, r1, r2, r3⟩
  by_cases h0 : T2.heap.size ≤ n0
  · exact fin [] (by rw [List.append_nil]; exact HL) (fun h L2 q _ => Nat.le_trans h0 q.1.1)
  · by_cases hin : T2.heap.size - 1 ∈ L.map (·.1)
    · refine fin [] (by rw [List.append_nil]; exact HL) (fun h L2 q hsub => ?_)
      obtain ⟨r, hr, he⟩ := List.mem_map.mp (hsub _ hin)
      obtain ⟨-, c1, g2, -⟩ := q.2.2 r (List.mem_append_left _ hr)
      have := (Array.getElem?_eq_some_iff.mp g2).1
      have he' : r.1 = T2.heap.size - 1 := he
      rw [he'] at this; omega
    · have hex : T2.heap.size - 1 < T2.heap.size := by omega
      refine fin [(T2.heap.size - 1, fun _ => True)] ⟨HL.1, ?_, fun r hr => ?_⟩ (fun h L2 q _ => ?_)
      · rw [List.map_append, List.nodup_append]
        refine ⟨HL.2.1, by simp, fun x hx b hb2 => ?_⟩
        have hb3 : b = T2.heap.size - 1 := by simpa using hb2
        intro q; rw [q, hb3] at hx; exact hin hx
      · rcases List.mem_append.mp hr with hr | hr
        · exact HL.2.2 r hr
        · have hr2 : r = (T2.heap.size - 1, fun _ => True) := by simpa using hr
          subst hr2
          exact ⟨by show n0 ≤ T2.heap.size - 1; omega, T2.heap[T2.heap.size - 1], Array.getElem?_eq_getElem hex, trivial⟩
      · obtain ⟨-, c1, g2, -⟩ := q.2.2 (T2.heap.size - 1, fun _ => True) (by simp)
        have := (Array.getElem?_eq_some_iff.mp g2).1
        omega
end Ldc
end Jvm.OwnKit

namespace Jvm.Pilot.@@N@@
open Jvm Jvm.ClassFile Sem Op Lib Jvm.Free Jvm.Stand Jvm.LawKit Jvm.RoadKit Jvm.OwnKit Jvm.Free.Fl Bundle Jvm.Pilot.@@N@@.Jvm.D
theorem wd_0 {Z : State} {a0 : Array Value} (hw : ∀ d ∈ tables_1, d.before a0 Z = true) : (Jvm.Cond.constant "com/example/tallymark/tallymark/text/BaseUnitScalePinLaw" (7 : Nat) (1048575 : Int32)).before a0 Z = true := hw _ (List.mem_of_getElem? (i := 0) rfl)
theorem wd_1 {Z : State} {a0 : Array Value} (hw : ∀ d ∈ tables_1, d.before a0 Z = true) : (Jvm.Cond.classLink "com/example/tallymark/tallymark/text/BaseUnitScalePinLaw" (8 : Nat) "com/example/tallymark/tallymark/text/BaseUnit").before a0 Z = true := hw _ (List.mem_of_getElem? (i := 1) rfl)
theorem wd_2 {Z : State} {a0 : Array Value} (hw : ∀ d ∈ tables_1, d.before a0 Z = true) : (Jvm.Cond.instantiable "com/example/tallymark/tallymark/text/BaseUnit" (3 : Nat)).before a0 Z = true := hw _ (List.mem_of_getElem? (i := 2) rfl)
theorem wd_3 {Z : State} {a0 : Array Value} (hw : ∀ d ∈ tables_1, d.before a0 Z = true) : (Jvm.Cond.initialized "com/example/tallymark/tallymark/text/BaseUnit").before a0 Z = true := hw _ (List.mem_of_getElem? (i := 3) rfl)
theorem wd_4 {Z : State} {a0 : Array Value} (hw : ∀ d ∈ tables_1, d.before a0 Z = true) : (Jvm.Cond.stringLink "com/example/tallymark/tallymark/text/BaseUnitScalePinLaw" (10 : Nat) "u").before a0 Z = true := hw _ (List.mem_of_getElem? (i := 4) rfl)
theorem wd_5 {Z : State} {a0 : Array Value} (hw : ∀ d ∈ tables_1, d.before a0 Z = true) : (Jvm.Cond.initialized "java/lang/String").before a0 Z = true := hw _ (List.mem_of_getElem? (i := 5) rfl)
theorem wd_6 {Z : State} {a0 : Array Value} (hw : ∀ d ∈ tables_1, d.before a0 Z = true) : (Jvm.Cond.instantiable "java/lang/String" (4 : Nat)).before a0 Z = true := hw _ (List.mem_of_getElem? (i := 6) rfl)
theorem wd_7 {Z : State} {a0 : Array Value} (hw : ∀ d ∈ tables_1, d.before a0 Z = true) : (Jvm.Cond.arrayClass Jvm.ClassFile.FieldType.byte).before a0 Z = true := hw _ (List.mem_of_getElem? (i := 7) rfl)
theorem wd_8 {Z : State} {a0 : Array Value} (hw : ∀ d ∈ tables_1, d.before a0 Z = true) : (Jvm.Cond.laysFinal "java/lang/String" "java/lang/String" "value" "[B").before a0 Z = true := hw _ (List.mem_of_getElem? (i := 8) rfl)
theorem wd_9 {Z : State} {a0 : Array Value} (hw : ∀ d ∈ tables_1, d.before a0 Z = true) : (Jvm.Cond.laysFinal "java/lang/String" "java/lang/String" "coder" "B").before a0 Z = true := hw _ (List.mem_of_getElem? (i := 9) rfl)
theorem wd_10 {Z : State} {a0 : Array Value} (hw : ∀ d ∈ tables_1, d.before a0 Z = true) : (Jvm.Cond.soleField "java/lang/String" "value").before a0 Z = true := hw _ (List.mem_of_getElem? (i := 10) rfl)
theorem wd_11 {Z : State} {a0 : Array Value} (hw : ∀ d ∈ tables_1, d.before a0 Z = true) : (Jvm.Cond.soleField "java/lang/String" "coder").before a0 Z = true := hw _ (List.mem_of_getElem? (i := 11) rfl)
theorem wd_12 {Z : State} {a0 : Array Value} (hw : ∀ d ∈ tables_1, d.before a0 Z = true) : (Jvm.Cond.methodLink "com/example/tallymark/tallymark/text/BaseUnitScalePinLaw" (12 : Nat) ({ cls := "com/example/tallymark/tallymark/text/BaseUnit", name := "<init>", desc := "(Ljava/lang/String;DD)V" } : Jvm.MethodName)).before a0 Z = true := hw _ (List.mem_of_getElem? (i := 12) rfl)
theorem wd_13 {Z : State} {a0 : Array Value} (hw : ∀ d ∈ tables_1, d.before a0 Z = true) : (Jvm.Cond.instanceMethod ({ cls := "com/example/tallymark/tallymark/text/BaseUnit", name := "<init>", desc := "(Ljava/lang/String;DD)V" } : Jvm.MethodName)).before a0 Z = true := hw _ (List.mem_of_getElem? (i := 13) rfl)
theorem wd_14 {Z : State} {a0 : Array Value} (hw : ∀ d ∈ tables_1, d.before a0 Z = true) : (Jvm.Cond.code ({ cls := "com/example/tallymark/tallymark/text/BaseUnit", name := "<init>", desc := "(Ljava/lang/String;DD)V" } : Jvm.MethodName) prog_44_method_1_code (6 : Nat) (Option.none : Option Jvm.ClassFile.FieldType)).before a0 Z = true := hw _ (List.mem_of_getElem? (i := 14) rfl)
theorem wd_15 {Z : State} {a0 : Array Value} (hw : ∀ d ∈ tables_1, d.before a0 Z = true) : (Jvm.Cond.methodLink "com/example/tallymark/tallymark/text/BaseUnit" (3 : Nat) ({ cls := "java/lang/Record", name := "<init>", desc := "()V" } : Jvm.MethodName)).before a0 Z = true := hw _ (List.mem_of_getElem? (i := 15) rfl)
theorem wd_16 {Z : State} {a0 : Array Value} (hw : ∀ d ∈ tables_1, d.before a0 Z = true) : (Jvm.Cond.instanceMethod ({ cls := "java/lang/Record", name := "<init>", desc := "()V" } : Jvm.MethodName)).before a0 Z = true := hw _ (List.mem_of_getElem? (i := 16) rfl)
theorem wd_18 {Z : State} {a0 : Array Value} (hw : ∀ d ∈ tables_1, d.before a0 Z = true) : (Jvm.Cond.initialized "java/lang/Record").before a0 Z = true := hw _ (List.mem_of_getElem? (i := 18) rfl)
theorem wd_19 {Z : State} {a0 : Array Value} (hw : ∀ d ∈ tables_1, d.before a0 Z = true) : (Jvm.Cond.code ({ cls := "java/lang/Record", name := "<init>", desc := "()V" } : Jvm.MethodName) jdk_30_method_1_code (1 : Nat) (Option.none : Option Jvm.ClassFile.FieldType)).before a0 Z = true := hw _ (List.mem_of_getElem? (i := 19) rfl)
theorem wd_20 {Z : State} {a0 : Array Value} (hw : ∀ d ∈ tables_1, d.before a0 Z = true) : (Jvm.Cond.methodLink "java/lang/Record" (1 : Nat) ({ cls := "java/lang/Object", name := "<init>", desc := "()V" } : Jvm.MethodName)).before a0 Z = true := hw _ (List.mem_of_getElem? (i := 20) rfl)
theorem wd_21 {Z : State} {a0 : Array Value} (hw : ∀ d ∈ tables_1, d.before a0 Z = true) : (Jvm.Cond.instanceMethod ({ cls := "java/lang/Object", name := "<init>", desc := "()V" } : Jvm.MethodName)).before a0 Z = true := hw _ (List.mem_of_getElem? (i := 21) rfl)
theorem wd_22 {Z : State} {a0 : Array Value} (hw : ∀ d ∈ tables_1, d.before a0 Z = true) : (Jvm.Cond.code ({ cls := "java/lang/Object", name := "<init>", desc := "()V" } : Jvm.MethodName) object_method_1_code (1 : Nat) (Option.none : Option Jvm.ClassFile.FieldType)).before a0 Z = true := hw _ (List.mem_of_getElem? (i := 22) rfl)
theorem wd_23 {Z : State} {a0 : Array Value} (hw : ∀ d ∈ tables_1, d.before a0 Z = true) : (Jvm.Cond.fieldLink "com/example/tallymark/tallymark/text/BaseUnit" (9 : Nat) "com/example/tallymark/tallymark/text/BaseUnit" "name" "Ljava/lang/String;").before a0 Z = true := hw _ (List.mem_of_getElem? (i := 23) rfl)
theorem wd_24 {Z : State} {a0 : Array Value} (hw : ∀ d ∈ tables_1, d.before a0 Z = true) : (Jvm.Cond.laysFinal "com/example/tallymark/tallymark/text/BaseUnit" "com/example/tallymark/tallymark/text/BaseUnit" "name" "Ljava/lang/String;").before a0 Z = true := hw _ (List.mem_of_getElem? (i := 24) rfl)
theorem wd_25 {Z : State} {a0 : Array Value} (hw : ∀ d ∈ tables_1, d.before a0 Z = true) : (Jvm.Cond.fieldLink "com/example/tallymark/tallymark/text/BaseUnit" (13 : Nat) "com/example/tallymark/tallymark/text/BaseUnit" "multiplier" "D").before a0 Z = true := hw _ (List.mem_of_getElem? (i := 25) rfl)
theorem wd_26 {Z : State} {a0 : Array Value} (hw : ∀ d ∈ tables_1, d.before a0 Z = true) : (Jvm.Cond.laysFinal "com/example/tallymark/tallymark/text/BaseUnit" "com/example/tallymark/tallymark/text/BaseUnit" "multiplier" "D").before a0 Z = true := hw _ (List.mem_of_getElem? (i := 26) rfl)
theorem wd_27 {Z : State} {a0 : Array Value} (hw : ∀ d ∈ tables_1, d.before a0 Z = true) : (Jvm.Cond.fieldLink "com/example/tallymark/tallymark/text/BaseUnit" (17 : Nat) "com/example/tallymark/tallymark/text/BaseUnit" "divisor" "D").before a0 Z = true := hw _ (List.mem_of_getElem? (i := 27) rfl)
theorem wd_28 {Z : State} {a0 : Array Value} (hw : ∀ d ∈ tables_1, d.before a0 Z = true) : (Jvm.Cond.laysFinal "com/example/tallymark/tallymark/text/BaseUnit" "com/example/tallymark/tallymark/text/BaseUnit" "divisor" "D").before a0 Z = true := hw _ (List.mem_of_getElem? (i := 28) rfl)
theorem wd_29 {Z : State} {a0 : Array Value} (hw : ∀ d ∈ tables_1, d.before a0 Z = true) : (Jvm.Cond.methodLink "com/example/tallymark/tallymark/text/BaseUnitScalePinLaw" (15 : Nat) ({ cls := "com/example/tallymark/tallymark/text/BaseUnit", name := "scale", desc := "(D)D" } : Jvm.MethodName)).before a0 Z = true := hw _ (List.mem_of_getElem? (i := 29) rfl)
theorem wd_30 {Z : State} {a0 : Array Value} (hw : ∀ d ∈ tables_1, d.before a0 Z = true) : (Jvm.Cond.declares ({ cls := "com/example/tallymark/tallymark/text/BaseUnit", name := "scale", desc := "(D)D" } : Jvm.MethodName)).before a0 Z = true := hw _ (List.mem_of_getElem? (i := 30) rfl)
theorem wd_31 {Z : State} {a0 : Array Value} (hw : ∀ d ∈ tables_1, d.before a0 Z = true) : (Jvm.Cond.instanceMethod ({ cls := "com/example/tallymark/tallymark/text/BaseUnit", name := "scale", desc := "(D)D" } : Jvm.MethodName)).before a0 Z = true := hw _ (List.mem_of_getElem? (i := 31) rfl)
theorem wd_32 {Z : State} {a0 : Array Value} (hw : ∀ d ∈ tables_1, d.before a0 Z = true) : (Jvm.Cond.selects "com/example/tallymark/tallymark/text/BaseUnit" ({ cls := "com/example/tallymark/tallymark/text/BaseUnit", name := "scale", desc := "(D)D" } : Jvm.MethodName) ({ cls := "com/example/tallymark/tallymark/text/BaseUnit", name := "scale", desc := "(D)D" } : Jvm.MethodName)).before a0 Z = true := hw _ (List.mem_of_getElem? (i := 32) rfl)
theorem wd_33 {Z : State} {a0 : Array Value} (hw : ∀ d ∈ tables_1, d.before a0 Z = true) : (Jvm.Cond.code ({ cls := "com/example/tallymark/tallymark/text/BaseUnit", name := "scale", desc := "(D)D" } : Jvm.MethodName) prog_44_method_3_code (3 : Nat) (Option.some Jvm.ClassFile.FieldType.double)).before a0 Z = true := hw _ (List.mem_of_getElem? (i := 33) rfl)
theorem wd_34 {Z : State} {a0 : Array Value} (hw : ∀ d ∈ tables_1, d.before a0 Z = true) : (Jvm.Cond.constantLong "com/example/tallymark/tallymark/text/BaseUnitScalePinLaw" (19 : Nat) (-1 : Int64)).before a0 Z = true := hw _ (List.mem_of_getElem? (i := 34) rfl)
theorem wd_35 {Z : State} {a0 : Array Value} (hw : ∀ d ∈ tables_1, d.before a0 Z = true) : (Jvm.Cond.methodLink "com/example/tallymark/tallymark/text/BaseUnitScalePinLaw" (21 : Nat) ({ cls := "java/lang/Math", name := "min", desc := "(JJ)J" } : Jvm.MethodName)).before a0 Z = true := hw _ (List.mem_of_getElem? (i := 35) rfl)
theorem wd_36 {Z : State} {a0 : Array Value} (hw : ∀ d ∈ tables_1, d.before a0 Z = true) : (Jvm.Cond.static ({ cls := "java/lang/Math", name := "min", desc := "(JJ)J" } : Jvm.MethodName)).before a0 Z = true := hw _ (List.mem_of_getElem? (i := 36) rfl)
theorem wd_37 {Z : State} {a0 : Array Value} (hw : ∀ d ∈ tables_1, d.before a0 Z = true) : (Jvm.Cond.initialized "java/lang/Math").before a0 Z = true := hw _ (List.mem_of_getElem? (i := 37) rfl)
theorem wd_38 {Z : State} {a0 : Array Value} (hw : ∀ d ∈ tables_1, d.before a0 Z = true) : (Jvm.Cond.code ({ cls := "java/lang/Math", name := "min", desc := "(JJ)J" } : Jvm.MethodName) jdk_29_method_70_code (4 : Nat) (Option.some Jvm.ClassFile.FieldType.long)).before a0 Z = true := hw _ (List.mem_of_getElem? (i := 38) rfl)
theorem wd_39 {Z : State} {a0 : Array Value} (hw : ∀ d ∈ tables_1, d.before a0 Z = true) : (Jvm.Cond.methodLink "com/example/tallymark/tallymark/text/BaseUnitScalePinLaw" (27 : Nat) ({ cls := "java/lang/Math", name := "max", desc := "(JJ)J" } : Jvm.MethodName)).before a0 Z = true := hw _ (List.mem_of_getElem? (i := 39) rfl)
theorem wd_40 {Z : State} {a0 : Array Value} (hw : ∀ d ∈ tables_1, d.before a0 Z = true) : (Jvm.Cond.static ({ cls := "java/lang/Math", name := "max", desc := "(JJ)J" } : Jvm.MethodName)).before a0 Z = true := hw _ (List.mem_of_getElem? (i := 40) rfl)
theorem wd_41 {Z : State} {a0 : Array Value} (hw : ∀ d ∈ tables_1, d.before a0 Z = true) : (Jvm.Cond.code ({ cls := "java/lang/Math", name := "max", desc := "(JJ)J" } : Jvm.MethodName) jdk_29_method_66_code (4 : Nat) (Option.some Jvm.ClassFile.FieldType.long)).before a0 Z = true := hw _ (List.mem_of_getElem? (i := 41) rfl)
theorem la_BaseUnit {Z : State} {a0 : Array Value} (hw : ∀ d ∈ tables_1, d.before a0 Z = true) : LaidAll Z a0 "com/example/tallymark/tallymark/text/BaseUnit" [("com/example/tallymark/tallymark/text/BaseUnit", "name", "Ljava/lang/String;", .null), ("com/example/tallymark/tallymark/text/BaseUnit", "multiplier", "D", .double 0), ("com/example/tallymark/tallymark/text/BaseUnit", "divisor", "D", .double 0)] := LaidAll.cons (Or.inr (wd_24 hw)) (t := (.object "java/lang/String")) (by decide) rfl (LaidAll.cons (Or.inr (wd_26 hw)) (t := .double) (by decide) rfl (LaidAll.cons (Or.inr (wd_28 hw)) (t := .double) (by decide) rfl (LaidAll.nil)))
theorem ef_2 (m : MethodId) (x0 : Addr) : entryFrame m #[.ref x0] 1 = mkF m 0 #[.val (.ref x0)] [] := by first | (simp [entryFrame, mkF, argsToLocals, Value.category, maxLocals]; done) | rfl
theorem d2_0 : decode jdk_30_method_1_code 0 = .ok (.aload_n 0, 1) := by decide +kernel
theorem d2_1 : decode jdk_30_method_1_code 1 = .ok (.invokespecial 1, 3) := by decide +kernel
theorem d2_4 : decode jdk_30_method_1_code 4 = .ok (.return_, 1) := by decide +kernel
theorem pf_2 : plainFor ⟨"java/lang/Record", "<init>", "()V"⟩ = true := by first | exact plainFor_of_name (by first | (simp [plainName, overriddenIn]; done) | decide +kernel) | decide +kernel
theorem ef_1 (m : MethodId) (x0 : Addr) (x1 : Addr) (x2 : UInt64) (x3 : UInt64) : entryFrame m #[.ref x0, .ref x1, .double x2, .double x3] 6 = mkF m 0 #[.val (.ref x0), .val (.ref x1), .val (.double x2), .second, .val (.double x3), .second] [] := by first | (simp [entryFrame, mkF, argsToLocals, Value.category, maxLocals]; done) | rfl
theorem d1_0 : decode prog_44_method_1_code 0 = .ok (.aload_n 0, 1) := by decide +kernel
theorem d1_1 : decode prog_44_method_1_code 1 = .ok (.invokespecial 3, 3) := by decide +kernel
theorem pd_0 : parseMethodDescriptor "()V" = some ⟨[], none⟩ := by decide +kernel
theorem d1_4 : decode prog_44_method_1_code 4 = .ok (.aload_n 0, 1) := by decide +kernel
theorem d1_5 : decode prog_44_method_1_code 5 = .ok (.aload_n 1, 1) := by decide +kernel
theorem d1_6 : decode prog_44_method_1_code 6 = .ok (.putfield 9, 3) := by decide +kernel
theorem d1_9 : decode prog_44_method_1_code 9 = .ok (.aload_n 0, 1) := by decide +kernel
theorem d1_10 : decode prog_44_method_1_code 10 = .ok (.dload_n 2, 1) := by decide +kernel
theorem d1_11 : decode prog_44_method_1_code 11 = .ok (.putfield 13, 3) := by decide +kernel
theorem d1_14 : decode prog_44_method_1_code 14 = .ok (.aload_n 0, 1) := by decide +kernel
theorem d1_15 : decode prog_44_method_1_code 15 = .ok (.dload 4, 2) := by decide +kernel
theorem d1_17 : decode prog_44_method_1_code 17 = .ok (.putfield 17, 3) := by decide +kernel
theorem d1_20 : decode prog_44_method_1_code 20 = .ok (.return_, 1) := by decide +kernel
theorem pn_BaseUnit : plainName "com/example/tallymark/tallymark/text/BaseUnit" = true := by first | (simp [plainName, overriddenIn]; done) | decide +kernel
theorem ef_4 (m : MethodId) (x0 : Addr) (x1 : UInt64) : entryFrame m #[.ref x0, .double x1] 3 = mkF m 0 #[.val (.ref x0), .val (.double x1), .second] [] := by first | (simp [entryFrame, mkF, argsToLocals, Value.category, maxLocals]; done) | rfl
theorem d4_0 : decode prog_44_method_3_code 0 = .ok (.dload_n 1, 1) := by decide +kernel
theorem d4_1 : decode prog_44_method_3_code 1 = .ok (.aload_n 0, 1) := by decide +kernel
theorem d4_2 : decode prog_44_method_3_code 2 = .ok (.getfield 13, 3) := by decide +kernel
theorem d4_5 : decode prog_44_method_3_code 5 = .ok (.dmul, 1) := by decide +kernel
theorem d4_6 : decode prog_44_method_3_code 6 = .ok (.aload_n 0, 1) := by decide +kernel
theorem d4_7 : decode prog_44_method_3_code 7 = .ok (.getfield 17, 3) := by decide +kernel
theorem d4_10 : decode prog_44_method_3_code 10 = .ok (.ddiv, 1) := by decide +kernel
theorem d4_11 : decode prog_44_method_3_code 11 = .ok (.dreturn, 1) := by decide +kernel
theorem ef_5 (m : MethodId) (x0 : Int64) (x1 : Int64) : entryFrame m #[.long x0, .long x1] 4 = mkF m 0 #[.val (.long x0), .second, .val (.long x1), .second] [] := by first | (simp [entryFrame, mkF, argsToLocals, Value.category, maxLocals]; done) | rfl
theorem d5_0 : decode jdk_29_method_70_code 0 = .ok (.lload_n 0, 1) := by decide +kernel
theorem d5_1 : decode jdk_29_method_70_code 1 = .ok (.lload_n 2, 1) := by decide +kernel
theorem d5_2 : decode jdk_29_method_70_code 2 = .ok (.lcmp, 1) := by decide +kernel
theorem d5_3 : decode jdk_29_method_70_code 3 = .ok (.ifCond .gt 7, 3) := by decide +kernel
theorem d5_10 : decode jdk_29_method_70_code 10 = .ok (.lload_n 2, 1) := by decide +kernel
theorem d5_11 : decode jdk_29_method_70_code 11 = .ok (.lreturn, 1) := by decide +kernel
theorem d5_6 : decode jdk_29_method_70_code 6 = .ok (.lload_n 0, 1) := by decide +kernel
theorem d5_7 : decode jdk_29_method_70_code 7 = .ok (.goto 4, 3) := by decide +kernel
theorem pf_5 : plainFor ⟨"java/lang/Math", "min", "(JJ)J"⟩ = true := by first | exact plainFor_of_name (by first | (simp [plainName, overriddenIn]; done) | decide +kernel) | decide +kernel
theorem ef_6 (m : MethodId) (x0 : Int64) (x1 : Int64) : entryFrame m #[.long x0, .long x1] 4 = mkF m 0 #[.val (.long x0), .second, .val (.long x1), .second] [] := by first | (simp [entryFrame, mkF, argsToLocals, Value.category, maxLocals]; done) | rfl
theorem d6_0 : decode jdk_29_method_66_code 0 = .ok (.lload_n 0, 1) := by decide +kernel
theorem d6_1 : decode jdk_29_method_66_code 1 = .ok (.lload_n 2, 1) := by decide +kernel
theorem d6_2 : decode jdk_29_method_66_code 2 = .ok (.lcmp, 1) := by decide +kernel
theorem d6_3 : decode jdk_29_method_66_code 3 = .ok (.ifCond .lt 7, 3) := by decide +kernel
theorem d6_10 : decode jdk_29_method_66_code 10 = .ok (.lload_n 2, 1) := by decide +kernel
theorem d6_11 : decode jdk_29_method_66_code 11 = .ok (.lreturn, 1) := by decide +kernel
theorem d6_6 : decode jdk_29_method_66_code 6 = .ok (.lload_n 0, 1) := by decide +kernel
theorem d6_7 : decode jdk_29_method_66_code 7 = .ok (.goto 4, 3) := by decide +kernel
theorem pf_6 : plainFor ⟨"java/lang/Math", "max", "(JJ)J"⟩ = true := by first | exact plainFor_of_name (by first | (simp [plainName, overriddenIn]; done) | decide +kernel) | decide +kernel
theorem ef_0 (m : MethodId) (x0 : Int32) (x1 : Int32) (x2 : Int32) (x3 : Int32) : entryFrame m #[.int x0, .int x1, .int x2, .int x3] maxLocals = mkF m 0 #[.val (.int x0), .val (.int x1), .val (.int x2), .val (.int x3), .unset, .unset, .unset, .unset, .unset, .unset, .unset, .unset, .unset, .unset, .unset, .unset, .unset, .unset, .unset, .unset, .unset, .unset] [] := by first | (simp [entryFrame, mkF, argsToLocals, Value.category, maxLocals]; done) | rfl
theorem pd_1 : parseMethodDescriptor "(Ljava/lang/String;DD)V" = some ⟨[(.object "java/lang/String"), .double, .double], none⟩ := by decide +kernel
theorem pd_2 : parseMethodDescriptor "(D)D" = some ⟨[.double], some .double⟩ := by decide +kernel
theorem pd_3 : parseMethodDescriptor "(JJ)J" = some ⟨[.long, .long], some .long⟩ := by decide +kernel
theorem pn_BaseUnitScalePinLaw : plainName "com/example/tallymark/tallymark/text/BaseUnitScalePinLaw" = true := by first | (simp [plainName, overriddenIn]; done) | decide +kernel

open Jvm.FP.Core in
theorem own_le {a b : UInt64} (ha : val64 a ≠ .nan) (hb : val64 b ≠ .nan) (h : zval b64 (val64 a) ≤ zval b64 (val64 b)) (o : CmpOp) : ¬ (0 : Int32) < cmpValue (FP.dcmp a b) o := by
  rw [show FP.dcmp a b = _ from dcmp_zval ha hb]
  rcases cv3 (zval b64 (val64 a)) (zval b64 (val64 b)) o with ⟨q, g⟩ | ⟨q, g⟩ | ⟨q, g⟩
  · rw [g]; decide
  · rw [g]; decide
  · omega
theorem own_p (v : Int32) {mm : Int64} (h : mm.toInt.natAbs ≤ 1048575) : (v.toInt64 * mm).toInt = v.toInt * mm.toInt ∧ (v.toInt * mm.toInt).natAbs ≤ 2251797666201600 := by
  have h1 := v.toInt_lt
  have h2 := v.le_toInt
  have hb : (v.toInt * mm.toInt).natAbs ≤ 2251797666201600 := by
    rw [Int.natAbs_mul]
    exact Nat.le_trans (Nat.mul_le_mul (show v.toInt.natAbs ≤ 2147483648 by omega) h) (by decide)
  refine ⟨?_, hb⟩
  rw [Kit.i64_mul (by rw [Int32.toInt_toInt64]; omega) (by rw [Int32.toInt_toInt64]; omega), Int32.toInt_toInt64]
theorem own_prod (v : Int32) {mm : Int64} (h : mm.toInt.natAbs ≤ 1048575) : Dy (v.toInt64 * mm).toInt 0 (FP.dmul (FP.i2d v) (FP.l2d mm)) := by
  obtain ⟨h1, h2⟩ := own_p v h
  rw [h1]
  exact dy_mul (e := 0) (f := 0) (dy_i2d v) (dy_l2d (by omega)) (by decide) (by decide) (by omega) (by decide) (by decide)
theorem own_mask (m : Int32) : ((m &&& (1048575 : Int32)).toInt64).toInt.natAbs ≤ 1048575 := by
  have h := Kit.i32_mask m 1048575 (k := 20) (by decide) (by decide)
  rw [Int32.toInt_toInt64, h]; omega
theorem own_neg {x : Int64} (h : x.toInt.natAbs ≤ 4294967296) : (-x).toInt = -x.toInt := Kit.i64_neg (by omega)
theorem own_dd1 (d : Int32) : ((d &&& (1048575 : Int32)).toInt64 + (1 : Int64)).toInt = d.toInt % 1048576 + 1 := by
  have h := Kit.i32_mask d 1048575 (k := 20) (by decide) (by decide)
  have e1 : (1 : Int64).toInt = 1 := by decide
  rw [Kit.i64_add (by rw [Int32.toInt_toInt64, h, e1]; omega) (by rw [Int32.toInt_toInt64, h, e1]; omega), Int32.toInt_toInt64, h, e1]
  rfl
theorem own_31 (x : Int32) : x &&& 31 = 0 ∨ x &&& 31 = 1 ∨ x &&& 31 = 2 ∨ x &&& 31 = 3 ∨ x &&& 31 = 4 ∨ x &&& 31 = 5 ∨ x &&& 31 = 6 ∨ x &&& 31 = 7 ∨ x &&& 31 = 8 ∨ x &&& 31 = 9 ∨ x &&& 31 = 10 ∨ x &&& 31 = 11 ∨ x &&& 31 = 12 ∨ x &&& 31 = 13 ∨ x &&& 31 = 14 ∨ x &&& 31 = 15 ∨ x &&& 31 = 16 ∨ x &&& 31 = 17 ∨ x &&& 31 = 18 ∨ x &&& 31 = 19 ∨ x &&& 31 = 20 ∨ x &&& 31 = 21 ∨ x &&& 31 = 22 ∨ x &&& 31 = 23 ∨ x &&& 31 = 24 ∨ x &&& 31 = 25 ∨ x &&& 31 = 26 ∨ x &&& 31 = 27 ∨ x &&& 31 = 28 ∨ x &&& 31 = 29 ∨ x &&& 31 = 30 ∨ x &&& 31 = 31 := by
  have h := Kit.i32_mask x 31 (k := 5) (by decide) (by decide)
  have q : (x &&& 31).toInt = 0 ∨ (x &&& 31).toInt = 1 ∨ (x &&& 31).toInt = 2 ∨ (x &&& 31).toInt = 3 ∨ (x &&& 31).toInt = 4 ∨ (x &&& 31).toInt = 5 ∨ (x &&& 31).toInt = 6 ∨ (x &&& 31).toInt = 7 ∨ (x &&& 31).toInt = 8 ∨ (x &&& 31).toInt = 9 ∨ (x &&& 31).toInt = 10 ∨ (x &&& 31).toInt = 11 ∨ (x &&& 31).toInt = 12 ∨ (x &&& 31).toInt = 13 ∨ (x &&& 31).toInt = 14 ∨ (x &&& 31).toInt = 15 ∨ (x &&& 31).toInt = 16 ∨ (x &&& 31).toInt = 17 ∨ (x &&& 31).toInt = 18 ∨ (x &&& 31).toInt = 19 ∨ (x &&& 31).toInt = 20 ∨ (x &&& 31).toInt = 21 ∨ (x &&& 31).toInt = 22 ∨ (x &&& 31).toInt = 23 ∨ (x &&& 31).toInt = 24 ∨ (x &&& 31).toInt = 25 ∨ (x &&& 31).toInt = 26 ∨ (x &&& 31).toInt = 27 ∨ (x &&& 31).toInt = 28 ∨ (x &&& 31).toInt = 29 ∨ (x &&& 31).toInt = 30 ∨ (x &&& 31).toInt = 31 := by omega
  rcases q with q | q | q | q | q | q | q | q | q | q | q | q | q | q | q | q | q | q | q | q | q | q | q | q | q | q | q | q | q | q | q | q
  · exact Or.inl (i32_lit q (by decide))
  · exact Or.inr (Or.inl (i32_lit q (by decide)))
  · exact Or.inr (Or.inr (Or.inl (i32_lit q (by decide))))
  · exact Or.inr (Or.inr (Or.inr (Or.inl (i32_lit q (by decide)))))
  · exact Or.inr (Or.inr (Or.inr (Or.inr (Or.inl (i32_lit q (by decide))))))
  · exact Or.inr (Or.inr (Or.inr (Or.inr (Or.inr (Or.inl (i32_lit q (by decide)))))))
  · exact Or.inr (Or.inr (Or.inr (Or.inr (Or.inr (Or.inr (Or.inl (i32_lit q (by decide))))))))
  · exact Or.inr (Or.inr (Or.inr (Or.inr (Or.inr (Or.inr (Or.inr (Or.inl (i32_lit q (by decide)))))))))
  · exact Or.inr (Or.inr (Or.inr (Or.inr (Or.inr (Or.inr (Or.inr (Or.inr (Or.inl (i32_lit q (by decide))))))))))
  · exact Or.inr (Or.inr (Or.inr (Or.inr (Or.inr (Or.inr (Or.inr (Or.inr (Or.inr (Or.inl (i32_lit q (by decide)))))))))))
  · exact Or.inr (Or.inr (Or.inr (Or.inr (Or.inr (Or.inr (Or.inr (Or.inr (Or.inr (Or.inr (Or.inl (i32_lit q (by decide))))))))))))
  · exact Or.inr (Or.inr (Or.inr (Or.inr (Or.inr (Or.inr (Or.inr (Or.inr (Or.inr (Or.inr (Or.inr (Or.inl (i32_lit q (by decide)))))))))))))
  · exact Or.inr (Or.inr (Or.inr (Or.inr (Or.inr (Or.inr (Or.inr (Or.inr (Or.inr (Or.inr (Or.inr (Or.inr (Or.inl (i32_lit q (by decide))))))))))))))
  · exact Or.inr (Or.inr (Or.inr (Or.inr (Or.inr (Or.inr (Or.inr (Or.inr (Or.inr (Or.inr (Or.inr (Or.inr (Or.inr (Or.inl (i32_lit q (by decide)))))))))))))))
  · exact Or.inr (Or.inr (Or.inr (Or.inr (Or.inr (Or.inr (Or.inr (Or.inr (Or.inr (Or.inr (Or.inr (Or.inr (Or.inr (Or.inr (Or.inl (i32_lit q (by decide))))))))))))))))
  · exact Or.inr (Or.inr (Or.inr (Or.inr (Or.inr (Or.inr (Or.inr (Or.inr (Or.inr (Or.inr (Or.inr (Or.inr (Or.inr (Or.inr (Or.inr (Or.inl (i32_lit q (by decide)))))))))))))))))
  · exact Or.inr (Or.inr (Or.inr (Or.inr (Or.inr (Or.inr (Or.inr (Or.inr (Or.inr (Or.inr (Or.inr (Or.inr (Or.inr (Or.inr (Or.inr (Or.inr (Or.inl (i32_lit q (by decide))))))))))))))))))
  · exact Or.inr (Or.inr (Or.inr (Or.inr (Or.inr (Or.inr (Or.inr (Or.inr (Or.inr (Or.inr (Or.inr (Or.inr (Or.inr (Or.inr (Or.inr (Or.inr (Or.inr (Or.inl (i32_lit q (by decide)))))))))))))))))))
  · exact Or.inr (Or.inr (Or.inr (Or.inr (Or.inr (Or.inr (Or.inr (Or.inr (Or.inr (Or.inr (Or.inr (Or.inr (Or.inr (Or.inr (Or.inr (Or.inr (Or.inr (Or.inr (Or.inl (i32_lit q (by decide))))))))))))))))))))
  · exact Or.inr (Or.inr (Or.inr (Or.inr (Or.inr (Or.inr (Or.inr (Or.inr (Or.inr (Or.inr (Or.inr (Or.inr (Or.inr (Or.inr (Or.inr (Or.inr (Or.inr (Or.inr (Or.inr (Or.inl (i32_lit q (by decide)))))))))))))))))))))
  · exact Or.inr (Or.inr (Or.inr (Or.inr (Or.inr (Or.inr (Or.inr (Or.inr (Or.inr (Or.inr (Or.inr (Or.inr (Or.inr (Or.inr (Or.inr (Or.inr (Or.inr (Or.inr (Or.inr (Or.inr (Or.inl (i32_lit q (by decide))))))))))))))))))))))
  · exact Or.inr (Or.inr (Or.inr (Or.inr (Or.inr (Or.inr (Or.inr (Or.inr (Or.inr (Or.inr (Or.inr (Or.inr (Or.inr (Or.inr (Or.inr (Or.inr (Or.inr (Or.inr (Or.inr (Or.inr (Or.inr (Or.inl (i32_lit q (by decide)))))))))))))))))))))))
  · exact Or.inr (Or.inr (Or.inr (Or.inr (Or.inr (Or.inr (Or.inr (Or.inr (Or.inr (Or.inr (Or.inr (Or.inr (Or.inr (Or.inr (Or.inr (Or.inr (Or.inr (Or.inr (Or.inr (Or.inr (Or.inr (Or.inr (Or.inl (i32_lit q (by decide))))))))))))))))))))))))
  · exact Or.inr (Or.inr (Or.inr (Or.inr (Or.inr (Or.inr (Or.inr (Or.inr (Or.inr (Or.inr (Or.inr (Or.inr (Or.inr (Or.inr (Or.inr (Or.inr (Or.inr (Or.inr (Or.inr (Or.inr (Or.inr (Or.inr (Or.inr (Or.inl (i32_lit q (by decide)))))))))))))))))))))))))
  · exact Or.inr (Or.inr (Or.inr (Or.inr (Or.inr (Or.inr (Or.inr (Or.inr (Or.inr (Or.inr (Or.inr (Or.inr (Or.inr (Or.inr (Or.inr (Or.inr (Or.inr (Or.inr (Or.inr (Or.inr (Or.inr (Or.inr (Or.inr (Or.inr (Or.inl (i32_lit q (by decide))))))))))))))))))))))))))
  · exact Or.inr (Or.inr (Or.inr (Or.inr (Or.inr (Or.inr (Or.inr (Or.inr (Or.inr (Or.inr (Or.inr (Or.inr (Or.inr (Or.inr (Or.inr (Or.inr (Or.inr (Or.inr (Or.inr (Or.inr (Or.inr (Or.inr (Or.inr (Or.inr (Or.inr (Or.inl (i32_lit q (by decide)))))))))))))))))))))))))))
  · exact Or.inr (Or.inr (Or.inr (Or.inr (Or.inr (Or.inr (Or.inr (Or.inr (Or.inr (Or.inr (Or.inr (Or.inr (Or.inr (Or.inr (Or.inr (Or.inr (Or.inr (Or.inr (Or.inr (Or.inr (Or.inr (Or.inr (Or.inr (Or.inr (Or.inr (Or.inr (Or.inl (i32_lit q (by decide))))))))))))))))))))))))))))
  · exact Or.inr (Or.inr (Or.inr (Or.inr (Or.inr (Or.inr (Or.inr (Or.inr (Or.inr (Or.inr (Or.inr (Or.inr (Or.inr (Or.inr (Or.inr (Or.inr (Or.inr (Or.inr (Or.inr (Or.inr (Or.inr (Or.inr (Or.inr (Or.inr (Or.inr (Or.inr (Or.inr (Or.inl (i32_lit q (by decide)))))))))))))))))))))))))))))
  · exact Or.inr (Or.inr (Or.inr (Or.inr (Or.inr (Or.inr (Or.inr (Or.inr (Or.inr (Or.inr (Or.inr (Or.inr (Or.inr (Or.inr (Or.inr (Or.inr (Or.inr (Or.inr (Or.inr (Or.inr (Or.inr (Or.inr (Or.inr (Or.inr (Or.inr (Or.inr (Or.inr (Or.inr (Or.inl (i32_lit q (by decide))))))))))))))))))))))))))))))
  · exact Or.inr (Or.inr (Or.inr (Or.inr (Or.inr (Or.inr (Or.inr (Or.inr (Or.inr (Or.inr (Or.inr (Or.inr (Or.inr (Or.inr (Or.inr (Or.inr (Or.inr (Or.inr (Or.inr (Or.inr (Or.inr (Or.inr (Or.inr (Or.inr (Or.inr (Or.inr (Or.inr (Or.inr (Or.inr (Or.inl (i32_lit q (by decide)))))))))))))))))))))))))))))))
  · exact Or.inr (Or.inr (Or.inr (Or.inr (Or.inr (Or.inr (Or.inr (Or.inr (Or.inr (Or.inr (Or.inr (Or.inr (Or.inr (Or.inr (Or.inr (Or.inr (Or.inr (Or.inr (Or.inr (Or.inr (Or.inr (Or.inr (Or.inr (Or.inr (Or.inr (Or.inr (Or.inr (Or.inr (Or.inr (Or.inr (Or.inl (i32_lit q (by decide))))))))))))))))))))))))))))))))
  · exact Or.inr (Or.inr (Or.inr (Or.inr (Or.inr (Or.inr (Or.inr (Or.inr (Or.inr (Or.inr (Or.inr (Or.inr (Or.inr (Or.inr (Or.inr (Or.inr (Or.inr (Or.inr (Or.inr (Or.inr (Or.inr (Or.inr (Or.inr (Or.inr (Or.inr (Or.inr (Or.inr (Or.inr (Or.inr (Or.inr (Or.inr ((i32_lit q (by decide)))))))))))))))))))))))))))))))))
theorem own_shl (d : Int32) : ∃ t : Nat, t ≤ 31 ∧ ((1 : Int64) <<< ((d &&& (31 : Int32)).toInt64 &&& 63)).toInt = ((2 ^ t : Nat) : Int) := by
  rcases own_31 d with h | h | h | h | h | h | h | h | h | h | h | h | h | h | h | h | h | h | h | h | h | h | h | h | h | h | h | h | h | h | h | h
  · exact ⟨0, by decide, by rw [h]; decide⟩
  · exact ⟨1, by decide, by rw [h]; decide⟩
  · exact ⟨2, by decide, by rw [h]; decide⟩
  · exact ⟨3, by decide, by rw [h]; decide⟩
  · exact ⟨4, by decide, by rw [h]; decide⟩
  · exact ⟨5, by decide, by rw [h]; decide⟩
  · exact ⟨6, by decide, by rw [h]; decide⟩
  · exact ⟨7, by decide, by rw [h]; decide⟩
  · exact ⟨8, by decide, by rw [h]; decide⟩
  · exact ⟨9, by decide, by rw [h]; decide⟩
  · exact ⟨10, by decide, by rw [h]; decide⟩
  · exact ⟨11, by decide, by rw [h]; decide⟩
  · exact ⟨12, by decide, by rw [h]; decide⟩
  · exact ⟨13, by decide, by rw [h]; decide⟩
  · exact ⟨14, by decide, by rw [h]; decide⟩
  · exact ⟨15, by decide, by rw [h]; decide⟩
  · exact ⟨16, by decide, by rw [h]; decide⟩
  · exact ⟨17, by decide, by rw [h]; decide⟩
  · exact ⟨18, by decide, by rw [h]; decide⟩
  · exact ⟨19, by decide, by rw [h]; decide⟩
  · exact ⟨20, by decide, by rw [h]; decide⟩
  · exact ⟨21, by decide, by rw [h]; decide⟩
  · exact ⟨22, by decide, by rw [h]; decide⟩
  · exact ⟨23, by decide, by rw [h]; decide⟩
  · exact ⟨24, by decide, by rw [h]; decide⟩
  · exact ⟨25, by decide, by rw [h]; decide⟩
  · exact ⟨26, by decide, by rw [h]; decide⟩
  · exact ⟨27, by decide, by rw [h]; decide⟩
  · exact ⟨28, by decide, by rw [h]; decide⟩
  · exact ⟨29, by decide, by rw [h]; decide⟩
  · exact ⟨30, by decide, by rw [h]; decide⟩
  · exact ⟨31, by decide, by rw [h]; decide⟩
section
variable {v : Int32} {mm dd : Int64}
theorem own_div_fin (hm : mm.toInt.natAbs ≤ 1048575) (h0 : dd.toInt ≠ 0) (hd : dd.toInt.natAbs ≤ 2147483648) : NoNaN64 (FP.ddiv (FP.dmul (FP.i2d v) (FP.l2d mm)) (FP.l2d dd)) := by
  refine ddiv_out (own_prod v hm).nn (l2d_fin dd) ?_
  exact nz64_core.mpr (fun q => absurd ((Jvm.FP.Core.zero_bits2 _).mp q) (Jvm.FP.Core.l2d_ne_zero (fun z => h0 (by rw [z]; decide))))
theorem own_quot (hm : mm.toInt.natAbs ≤ 1048575) (h0 : dd.toInt ≠ 0) : (v.toInt64 * mm / dd).toInt = (v.toInt64 * mm).toInt.tdiv dd.toInt := by
  obtain ⟨h1, h2⟩ := own_p v hm
  exact Kit.i64_div (fun q => by rw [h1] at q; omega)
theorem own_exact (hm : mm.toInt.natAbs ≤ 1048575) (h0 : dd.toInt ≠ 0) (hd : dd.toInt.natAbs ≤ 2147483648) (hr : v.toInt64 * mm - v.toInt64 * mm / dd * dd = 0) :
    cmpValue (FP.dcmp (FP.ddiv (FP.dmul (FP.i2d v) (FP.l2d mm)) (FP.l2d dd)) (FP.l2d (v.toInt64 * mm / dd))) .l = 0 := by
  obtain ⟨h1, h2⟩ := own_p v hm
  have hr' := congrArg Int64.toInt hr
  rw [Kit.i64_rem, show (0 : Int64).toInt = 0 by decide] at hr'
  have hq := own_quot (v := v) hm h0
  have hdm := Int.mul_tdiv_add_tmod (v.toInt64 * mm).toInt dd.toInt
  rw [hr', Int.add_zero, Int.mul_comm] at hdm
  have hk : ((v.toInt64 * mm).toInt.tdiv dd.toInt).natAbs ≤ 2251797666201600 := by
    rw [Int.natAbs_tdiv]
    exact Nat.le_trans (Nat.div_le_self _ _) (by rw [h1]; exact h2)
  have hR := dy_divG (t := 0) (k := (v.toInt64 * mm).toInt.tdiv dd.toInt) (own_prod v hm) (dy_l2d (x := dd) (by omega)) (by decide) (by decide) h0 (by rw [hdm]; show _ * 1 = _; omega) (by omega) (by decide) (by decide)
  have hL := dy_l2d (x := v.toInt64 * mm / dd) (by rw [hq]; omega)
  rw [hq] at hL
  exact (dy_eq0 hR hL .l).mpr rfl
theorem own_pow (hm : mm.toInt.natAbs ≤ 1048575) {t : Nat} (ht : t ≤ 31) (hd : dd.toInt.natAbs = 2 ^ t) :
    NoNaN64 (FP.dmul (FP.ddiv (FP.dmul (FP.i2d v) (FP.l2d mm)) (FP.l2d dd)) (FP.l2d dd)) ∧ cmpValue (FP.dcmp (FP.dmul (FP.ddiv (FP.dmul (FP.i2d v) (FP.l2d mm)) (FP.l2d dd)) (FP.l2d dd)) (FP.l2d (v.toInt64 * mm))) .l = 0 := by
  obtain ⟨h1, h2⟩ := own_p v hm
  have hp2 : 0 < 2 ^ t := Nat.two_pow_pos t
  have hle : 2 ^ t ≤ 2 ^ 31 := Nat.pow_le_pow_right (by decide) ht
  have hdy := dy_l2d (x := dd) (by omega)
  have hL := dy_l2d (x := v.toInt64 * mm) (by rw [h1]; omega)
  have key : ∃ k : Int, (v.toInt64 * mm).toInt * ((2 ^ t : Nat) : Int) = k * dd.toInt ∧ k.natAbs = (v.toInt64 * mm).toInt.natAbs := by
    rcases Int.natAbs_eq dd.toInt with q | q
    · exact ⟨_, by rw [q, hd], rfl⟩
    · refine ⟨-(v.toInt64 * mm).toInt, ?_, by omega⟩
      rw [q, hd, Int.neg_mul_neg]
  obtain ⟨k, hk, hka⟩ := key
  have hR := dy_divG (t := t) (k := k) (own_prod v hm) hdy (by decide) (by decide) (by omega) hk (by rw [hka, h1]; omega) (by omega) (by omega)
  have hM := dy_mulG (t := t) (k := (v.toInt64 * mm).toInt) hR hdy (by omega) (by decide) hk.symm (by rw [h1]; omega) (by omega) (by omega)
  rw [show (0 : Int) - 0 - (t : Int) + 0 + (t : Int) = 0 by omega] at hM
  exact ⟨hM.nn, (dy_eq0 hM hL .l).mpr rfl⟩
theorem own_tdiv {P D : Int} : ((P < 0 ↔ D < 0) → 0 ≤ P.tdiv D) ∧ (¬ (P < 0 ↔ D < 0) → P.tdiv D ≤ 0) := by
  by_cases hP : P < 0 <;> by_cases hD : D < 0
  · refine ⟨fun _ => ?_, fun q => absurd (by simp [hP, hD]) q⟩
    have : P.tdiv D = (-P).tdiv (-D) := by rw [Int.tdiv_neg, Int.neg_tdiv, Int.neg_neg]
    rw [this]; exact Int.tdiv_nonneg (by omega) (by omega)
  · refine ⟨fun q => absurd (q.mp hP) hD, fun _ => ?_⟩
    have : P.tdiv D = -((-P).tdiv D) := by rw [Int.neg_tdiv, Int.neg_neg]
    rw [this]
    have := Int.tdiv_nonneg (a := -P) (b := D) (by omega) (by omega)
    omega
  · refine ⟨fun q => absurd (q.mpr hD) hP, fun _ => ?_⟩
    have : P.tdiv D = -(P.tdiv (-D)) := by rw [Int.tdiv_neg, Int.neg_neg]
    rw [this]
    have := Int.tdiv_nonneg (a := P) (b := -D) (by omega) (by omega)
    omega
  · refine ⟨fun _ => Int.tdiv_nonneg (by omega) (by omega), fun q => absurd (by simp [hP, hD]) q⟩
open Jvm.FP.Core in
theorem own_zl {x : Int64} (h : x.toInt.natAbs ≤ 2 ^ 53) : zval b64 (val64 (FP.l2d x)) = x.toInt * (one64 : Int) := DInt_zval (l2d_int h)
open Jvm.FP.Core in
theorem own_nl (x : Int64) : val64 (FP.l2d x) ≠ .nan := DFin.ne_nan (Jvm.FP.Core.l2d_fin x)
theorem own_lt0 {x : Int64} : x < 0 ↔ x.toInt < 0 := by rw [Int64.lt_iff_toInt_lt]; rfl
theorem own_aux1 {x l h y : Int} {T : Nat} (hT : T ≤ 2251797666201600) (hn : x.natAbs = T) (h0 : 0 ≤ x) (hy : y = x + 1) (hl : l = min x y) (hh : h = max x y) : x = (T : Int) ∧ l = (T : Int) ∧ h = (T : Int) + 1 ∧ l.natAbs ≤ 2 ^ 53 ∧ h.natAbs ≤ 2 ^ 53 := by
  refine ⟨by omega, by omega, by omega, by omega, by omega⟩
theorem own_aux2 {x l h y : Int} {T : Nat} (hT : T ≤ 2251797666201600) (hn : x.natAbs = T) (h0 : x ≤ 0) (hy : y = x - 1) (hl : l = min x y) (hh : h = max x y) : x = -(T : Int) ∧ l = -((T : Int) + 1) ∧ h = -(T : Int) ∧ l.natAbs ≤ 2 ^ 53 ∧ h.natAbs ≤ 2 ^ 53 := by
  refine ⟨by omega, by omega, by omega, by omega, by omega⟩
theorem own_xp1 {X : Int64} (h : X.toInt.natAbs ≤ 2251797666201600) : (X + 1).toInt = X.toInt + 1 := by
  have e1 : (1 : Int64).toInt = 1 := by decide
  rw [Kit.i64_add (by rw [e1]; omega) (by rw [e1]; omega), e1]
theorem own_xm1 {X : Int64} (h : X.toInt.natAbs ≤ 2251797666201600) : (X + -1).toInt = X.toInt - 1 := by
  have e1 : (-1 : Int64).toInt = -1 := by decide
  rw [Kit.i64_add (by rw [e1]; omega) (by rw [e1]; omega), e1]; rfl
open Jvm.FP.Core in
theorem own_between (hm : mm.toInt.natAbs ≤ 1048575) (h0 : dd.toInt ≠ 0) (hd : dd.toInt.natAbs ≤ 2147483648) (hr : ¬ v.toInt64 * mm - v.toInt64 * mm / dd * dd = 0) {sg lo hi : Int64}
    (hs : ((v.toInt64 * mm < 0 ↔ dd < 0) ∧ sg = 1) ∨ (¬ (v.toInt64 * mm < 0 ↔ dd < 0) ∧ sg = -1)) (hlo : lo.toInt = min (v.toInt64 * mm / dd).toInt (v.toInt64 * mm / dd + sg).toInt) (hhi : hi.toInt = max (v.toInt64 * mm / dd).toInt (v.toInt64 * mm / dd + sg).toInt) :
    ¬ (0 : Int32) < cmpValue (FP.dcmp (FP.l2d lo) (FP.ddiv (FP.dmul (FP.i2d v) (FP.l2d mm)) (FP.l2d dd))) .g ∧ ¬ (0 : Int32) < cmpValue (FP.dcmp (FP.ddiv (FP.dmul (FP.i2d v) (FP.l2d mm)) (FP.l2d dd)) (FP.l2d hi)) .g := by
  obtain ⟨h1, h2⟩ := own_p v hm
  have hq := own_quot (v := v) hm h0
  have hp0 : (v.toInt64 * mm).toInt ≠ 0 := fun z => hr (Int64.toInt_inj.mp (by rw [Kit.i64_rem, z, Int.zero_tmod]; decide))
  have hprod := own_prod v hm
  rw [own_lt0, own_lt0] at hs
  rw [← h1] at h2
  generalize hX : v.toInt64 * mm / dd = X at hq hlo hhi
  generalize (v.toInt64 * mm).toInt = P at hq hp0 hprod hs h2
  have hT2 : P.natAbs / dd.toInt.natAbs ≤ 2251797666201600 := Nat.le_trans (Nat.div_le_self _ _) h2
  have hnat : X.toInt.natAbs = P.natAbs / dd.toInt.natAbs := by rw [hq, Int.natAbs_tdiv]; rfl
  have hdm := Nat.div_add_mod P.natAbs dd.toInt.natAbs
  have hmod := Nat.mod_lt P.natAbs (show 0 < dd.toInt.natAbs by omega)
  obtain ⟨T, hT⟩ : ∃ T, P.natAbs / dd.toInt.natAbs = T := ⟨_, rfl⟩
  rw [hT] at hT2 hnat hdm
  obtain ⟨hfin, zm, z1, z2, z3, z4⟩ := quot_between (T := T) hprod (dy_l2d (x := dd) (by omega)) h0 hp0 (by omega) (by rw [Nat.mul_comm]; omega) (by rw [Nat.add_mul, Nat.one_mul, Nat.mul_comm T]; omega)
  have hnr := DFin.ne_nan (fin64_core.mp hfin)
  have OL : lo.toInt.natAbs ≤ 2 ^ 53 → zval b64 (val64 (FP.l2d lo)) = lo.toInt * (one64 : Int) := own_zl
  have OH : hi.toInt.natAbs ≤ 2 ^ 53 → zval b64 (val64 (FP.l2d hi)) = hi.toInt * (one64 : Int) := own_zl
  have nlo := own_nl lo
  have nhi := own_nl hi
  generalize one64 = WW at z1 z2 OL OH
  generalize FP.ddiv (FP.dmul (FP.i2d v) (FP.l2d mm)) (FP.l2d dd) = QQ at hnr z3 z4 ⊢
  generalize FP.l2d lo = LO at OL nlo ⊢
  generalize FP.l2d hi = HI at OH nhi ⊢
  have c1 : ((T : Int) * (WW : Int)) ≤ (zm : Int) := by rw [← Int.natCast_mul]; exact Int.ofNat_le.mpr z1
  have c2 : (zm : Int) ≤ ((T : Int) + 1) * (WW : Int) := by
    have := Int.ofNat_le.mpr z2
    rw [Int.natCast_mul, Int.natCast_add] at this; exact this
  obtain ⟨s1, s2⟩ := own_tdiv (P := P) (D := dd.toInt)
  have hXb : X.toInt.natAbs ≤ 2251797666201600 := by rw [hnat]; exact hT2
  rcases hs with ⟨hs, rfl⟩ | ⟨hs, rfl⟩
  · obtain ⟨-, hlo', hhi', b1, b2⟩ := own_aux1 hT2 hnat (by rw [hq]; exact s1 hs) (own_xp1 hXb) hlo hhi
    have zr := z3 hs
    have k1 : zval b64 (val64 LO) ≤ zval b64 (val64 QQ) := by rw [OL b1, hlo', zr]; exact c1
    have k2 : zval b64 (val64 QQ) ≤ zval b64 (val64 HI) := by rw [OH b2, hhi', zr]; exact c2
    exact ⟨own_le nlo hnr k1 .g, own_le hnr nhi k2 .g⟩
  · obtain ⟨-, hlo', hhi', b1, b2⟩ := own_aux2 hT2 hnat (by rw [hq]; exact s2 hs) (own_xm1 hXb) hlo hhi
    have zr := z4 hs
    have k1 : zval b64 (val64 LO) ≤ zval b64 (val64 QQ) := by rw [OL b1, hlo', zr, Int.neg_mul]; exact Int.neg_le_neg c2
    have k2 : zval b64 (val64 QQ) ≤ zval b64 (val64 HI) := by rw [OH b2, hhi', zr, Int.neg_mul]; exact Int.neg_le_neg c1
    exact ⟨own_le nlo hnr k1 .g, own_le hnr nhi k2 .g⟩
end
theorem own_atoms {Z : State} {a0 : Array Value} (hw : ∀ d ∈ tables_1, d.before a0 Z = true) : ∀ a ∈ Bundle.stringAtoms, a.before a0 Z = true := by
  intro d hd
  simp only [Bundle.stringAtoms, List.mem_cons, List.not_mem_nil, or_false] at hd
  rcases hd with rfl | rfl | rfl | rfl | rfl | rfl | rfl
  · exact (wd_5 hw)
  · exact (wd_6 hw)
  · exact (wd_7 hw)
  · exact (wd_8 hw)
  · exact (wd_9 hw)
  · exact (wd_10 hw)
  · exact (wd_11 hw)
set_option maxRecDepth 65536 in
set_option maxHeartbeats 40000000 in
theorem c_rec (l : Launch) (Z : State) (a0 : Array Value) (hw : ∀ d ∈ tables_1, d.before a0 Z = true) (n0 : Nat) (a : Addr) (h0 : Heap) (F : List HRow) (H00 : Hp Z n0 h0 F) :
    Con l Z n0 ⟨"java/lang/Record", "<init>", "()V"⟩ [] jdk_30_method_1_code 1 none ({ frames := 1, cells := 0, slots := 0, locals := 12 } : Room) #[.ref a] h0 (fun v h => v = none ∧ Hp Z n0 h F) := by
  refine con_of pf_2 ?_
  intro p e s m below meth c T0 W0 e0
  have H0 : Hp Z n0 T0.heap F := e0 ▸ H00
  refine g_cast (ef_2 m a) ?_
  refine g_aloadN W0 d2_0 (pc' := 1) rfl rfl rfl ?_
  refine g_initO W0 (wd_20 hw) (wd_21 hw) (wd_22 hw) H0 rfl d2_1 (pc' := 4) rfl (by decide) (Wn := 0) (Nat.le_of_eq rfl) (by decide) ?_
  intro T1 W1 H1
  exact g_return W1 d2_4 ⟨rfl, H1⟩ (by decide) (by decide)
set_option maxRecDepth 65536 in
set_option maxHeartbeats 40000000 in
theorem c_init (l : Launch) (Z : State) (a0 : Array Value) (hw : ∀ d ∈ tables_1, d.before a0 Z = true) (n0 : Nat) (a sa : Addr) (mu di : UInt64) (h0 : Heap) (F : List HRow) (H00 : Hp Z n0 h0 ((a, ObC Z "com/example/tallymark/tallymark/text/BaseUnit" [("com/example/tallymark/tallymark/text/BaseUnit", "name", "Ljava/lang/String;", .null), ("com/example/tallymark/tallymark/text/BaseUnit", "multiplier", "D", .double 0), ("com/example/tallymark/tallymark/text/BaseUnit", "divisor", "D", .double 0)]) :: F)) :
    Con l Z n0 ⟨"com/example/tallymark/tallymark/text/BaseUnit", "<init>", "(Ljava/lang/String;DD)V"⟩ [] prog_44_method_1_code 6 none ({ frames := 2, cells := 0, slots := 0, locals := 24 } : Room) #[.ref a, .ref sa, .double mu, .double di] h0 (fun v h => v = none ∧ Hp Z n0 h ((a, ObC Z "com/example/tallymark/tallymark/text/BaseUnit" [("com/example/tallymark/tallymark/text/BaseUnit", "name", "Ljava/lang/String;", .ref sa), ("com/example/tallymark/tallymark/text/BaseUnit", "multiplier", "D", .double mu), ("com/example/tallymark/tallymark/text/BaseUnit", "divisor", "D", .double di)]) :: F)) := by
  refine con_of (plainFor_of_name pn_BaseUnit) ?_
  intro p e s m below meth c T0 W0 e0
  have H0 : Hp Z n0 T0.heap ((a, ObC Z "com/example/tallymark/tallymark/text/BaseUnit" [("com/example/tallymark/tallymark/text/BaseUnit", "name", "Ljava/lang/String;", .null), ("com/example/tallymark/tallymark/text/BaseUnit", "multiplier", "D", .double 0), ("com/example/tallymark/tallymark/text/BaseUnit", "divisor", "D", .double 0)]) :: F) := e0 ▸ H00
  refine g_cast (ef_1 m a sa mu di) ?_
  refine g_aloadN W0 d1_0 (pc' := 1) rfl rfl rfl ?_
  refine g_callI W0 (argsL := []) (st := []) rfl (wd_15 hw) (wd_16 hw) (wd_18 hw) (wd_19 hw) (by decide) (a := a) (c_rec l Z a0 hw n0 a _ _ H0) pd_0 rfl rfl rfl d1_1 (pc' := 4) rfl (by decide) (Wn := 0) (Nat.le_of_eq rfl) (by decide) (kc' := 0) (ks' := 0) rfl rfl (by decide) (by decide) ?_
  intro T1 v1 W1 hp1
  obtain ⟨rfl, H1⟩ := hp1
  show Goes p e below _ (T1.setTop (mkF m 4 #[.val (.ref a), .val (.ref sa), .val (.double mu), .second, .val (.double di), .second] []))
  refine g_aloadN W1 d1_4 (pc' := 5) rfl rfl rfl ?_
  refine g_aloadN W1 d1_5 (pc' := 6) rfl rfl rfl ?_
  refine g_putf W1 (wd_23 hw) Via.refl (Or.inr ⟨(wd_24 hw), rfl, rfl⟩) (wd_2 hw) (ty := (.object "java/lang/String")) (by decide) rfl rfl H1 (i := 0) rfl (jx := 0) rfl d1_6 (pc' := 9) rfl (L' := ((a, ObC Z "com/example/tallymark/tallymark/text/BaseUnit" [("com/example/tallymark/tallymark/text/BaseUnit", "name", "Ljava/lang/String;", .ref sa), ("com/example/tallymark/tallymark/text/BaseUnit", "multiplier", "D", .double 0), ("com/example/tallymark/tallymark/text/BaseUnit", "divisor", "D", .double 0)]) :: F)) rfl ?_
  intro T2 W2 H2
  refine g_aloadN W2 d1_9 (pc' := 10) rfl rfl rfl ?_
  refine g_dloadN W2 d1_10 (pc' := 11) rfl rfl ?_
  refine g_putf W2 (wd_25 hw) Via.refl (Or.inr ⟨(wd_26 hw), rfl, rfl⟩) (wd_2 hw) (ty := .double) (by decide) rfl rfl H2 (i := 0) rfl (jx := 1) rfl d1_11 (pc' := 14) rfl (L' := ((a, ObC Z "com/example/tallymark/tallymark/text/BaseUnit" [("com/example/tallymark/tallymark/text/BaseUnit", "name", "Ljava/lang/String;", .ref sa), ("com/example/tallymark/tallymark/text/BaseUnit", "multiplier", "D", .double mu), ("com/example/tallymark/tallymark/text/BaseUnit", "divisor", "D", .double 0)]) :: F)) rfl ?_
  intro T3 W3 H3
  refine g_aloadN W3 d1_14 (pc' := 15) rfl rfl rfl ?_
  refine g_dload W3 d1_15 (pc' := 17) rfl rfl ?_
  refine g_putf W3 (wd_27 hw) Via.refl (Or.inr ⟨(wd_28 hw), rfl, rfl⟩) (wd_2 hw) (ty := .double) (by decide) rfl rfl H3 (i := 0) rfl (jx := 2) rfl d1_17 (pc' := 20) rfl (L' := ((a, ObC Z "com/example/tallymark/tallymark/text/BaseUnit" [("com/example/tallymark/tallymark/text/BaseUnit", "name", "Ljava/lang/String;", .ref sa), ("com/example/tallymark/tallymark/text/BaseUnit", "multiplier", "D", .double mu), ("com/example/tallymark/tallymark/text/BaseUnit", "divisor", "D", .double di)]) :: F)) rfl ?_
  intro T4 W4 H4
  exact g_return W4 d1_20 ⟨rfl, H4⟩ (by decide) (by decide)
set_option maxRecDepth 65536 in
set_option maxHeartbeats 40000000 in
theorem c_scale (l : Launch) (Z : State) (a0 : Array Value) (hw : ∀ d ∈ tables_1, d.before a0 Z = true) (n0 : Nat) (a sa : Addr) (mu di : UInt64) (x : UInt64) (n1 : NoNaN64 (FP.dmul x mu)) (n2 : NoNaN64 (FP.ddiv (FP.dmul x mu) di)) (h0 : Heap) (F : List HRow) (H00 : Hp Z n0 h0 ((a, ObC Z "com/example/tallymark/tallymark/text/BaseUnit" [("com/example/tallymark/tallymark/text/BaseUnit", "name", "Ljava/lang/String;", .ref sa), ("com/example/tallymark/tallymark/text/BaseUnit", "multiplier", "D", .double mu), ("com/example/tallymark/tallymark/text/BaseUnit", "divisor", "D", .double di)]) :: F)) :
    Con l Z n0 ⟨"com/example/tallymark/tallymark/text/BaseUnit", "scale", "(D)D"⟩ [] prog_44_method_3_code 3 (some .double) ({ frames := 0, cells := 0, slots := 0, locals := 0 } : Room) #[.ref a, .double x] h0 (fun v h => v = some (.double (FP.ddiv (FP.dmul x mu) di)) ∧ Hp Z n0 h ((a, ObC Z "com/example/tallymark/tallymark/text/BaseUnit" [("com/example/tallymark/tallymark/text/BaseUnit", "name", "Ljava/lang/String;", .ref sa), ("com/example/tallymark/tallymark/text/BaseUnit", "multiplier", "D", .double mu), ("com/example/tallymark/tallymark/text/BaseUnit", "divisor", "D", .double di)]) :: F)) := by
  refine con_of (plainFor_of_name pn_BaseUnit) ?_
  intro p e s m below meth c T0 W0 e0
  have H0 : Hp Z n0 T0.heap ((a, ObC Z "com/example/tallymark/tallymark/text/BaseUnit" [("com/example/tallymark/tallymark/text/BaseUnit", "name", "Ljava/lang/String;", .ref sa), ("com/example/tallymark/tallymark/text/BaseUnit", "multiplier", "D", .double mu), ("com/example/tallymark/tallymark/text/BaseUnit", "divisor", "D", .double di)]) :: F) := e0 ▸ H00
  refine g_cast (ef_4 m a x) ?_
  refine g_dloadN W0 d4_0 (pc' := 1) rfl rfl ?_
  refine g_aloadN W0 d4_1 (pc' := 2) rfl rfl rfl ?_
  refine g_getf W0 (wd_25 hw) Via.refl H0 (i := 0) rfl (jx := 1) rfl d4_2 (pc' := 5) rfl ?_
  intro T1 W1 H1
  refine g_dmul W1 d4_5 (pc' := 6) rfl rfl n1 ?_
  refine g_aloadN W1 d4_6 (pc' := 7) rfl rfl rfl ?_
  refine g_getf W1 (wd_27 hw) Via.refl H1 (i := 0) rfl (jx := 2) rfl d4_7 (pc' := 10) rfl ?_
  intro T2 W2 H2
  refine g_ddiv W2 d4_10 (pc' := 11) rfl rfl n2 ?_
  exact g_dreturn W2 d4_11 ⟨rfl, H2⟩ (by decide) (by decide)
set_option maxRecDepth 65536 in
set_option maxHeartbeats 40000000 in
theorem c_min (l : Launch) (Z : State) (a0 : Array Value) (hw : ∀ d ∈ tables_1, d.before a0 Z = true) (n0 : Nat) (q0 q1 : Int64) (h0 : Heap) (F : List HRow) (H00 : Hp Z n0 h0 F) :
    Con l Z n0 ⟨"java/lang/Math", "min", "(JJ)J"⟩ [] jdk_29_method_70_code 4 (some .long) ({ frames := 0, cells := 0, slots := 0, locals := 0 } : Room) #[.long q0, .long q1] h0 (fun v h => (∃ r : Int64, v = some (.long r) ∧ r.toInt = min q0.toInt q1.toInt) ∧ Hp Z n0 h F) := by
  refine con_of pf_5 ?_
  intro p e s m below meth c T0 W0 e0
  have H0 : Hp Z n0 T0.heap F := e0 ▸ H00
  refine g_cast (ef_5 m q0 q1) ?_
  refine g_lloadN W0 d5_0 (pc' := 1) rfl rfl ?_
  refine g_lloadN W0 d5_1 (pc' := 2) rfl rfl ?_
  refine g_lcmp W0 d5_2 (pc' := 3) rfl rfl ?_
  refine g_if W0 d5_3 (pcy := 10) (by decide) (pc' := 6) rfl (fun (c1 : (0 : Int32) < (XT.cmpL q0 q1)) => ?_) (fun (c1 : ¬ (0 : Int32) < (XT.cmpL q0 q1)) => ?_)
  · replace c1 := cmpL_gt0.mp c1
    refine g_lloadN W0 d5_10 (pc' := 11) rfl rfl ?_
    exact g_lreturn W0 d5_11 ⟨⟨_, rfl, by rw [Int64.lt_iff_toInt_lt] at c1; omega⟩, H0⟩ (by decide) (by decide)
  · replace c1 : ¬ q1 < q0 := fun q => c1 (cmpL_gt0.mpr q)
    refine g_lloadN W0 d5_6 (pc' := 7) rfl rfl ?_
    refine g_goto W0 d5_7 (pc' := 11) (by decide) ?_
    exact g_lreturn W0 d5_11 ⟨⟨_, rfl, by rw [Int64.lt_iff_toInt_lt] at c1; omega⟩, H0⟩ (by decide) (by decide)
set_option maxRecDepth 65536 in
set_option maxHeartbeats 40000000 in
theorem c_max (l : Launch) (Z : State) (a0 : Array Value) (hw : ∀ d ∈ tables_1, d.before a0 Z = true) (n0 : Nat) (q0 q1 : Int64) (h0 : Heap) (F : List HRow) (H00 : Hp Z n0 h0 F) :
    Con l Z n0 ⟨"java/lang/Math", "max", "(JJ)J"⟩ [] jdk_29_method_66_code 4 (some .long) ({ frames := 0, cells := 0, slots := 0, locals := 0 } : Room) #[.long q0, .long q1] h0 (fun v h => (∃ r : Int64, v = some (.long r) ∧ r.toInt = max q0.toInt q1.toInt) ∧ Hp Z n0 h F) := by
  refine con_of pf_6 ?_
  intro p e s m below meth c T0 W0 e0
  have H0 : Hp Z n0 T0.heap F := e0 ▸ H00
  refine g_cast (ef_6 m q0 q1) ?_
  refine g_lloadN W0 d6_0 (pc' := 1) rfl rfl ?_
  refine g_lloadN W0 d6_1 (pc' := 2) rfl rfl ?_
  refine g_lcmp W0 d6_2 (pc' := 3) rfl rfl ?_
  refine g_if W0 d6_3 (pcy := 10) (by decide) (pc' := 6) rfl (fun (c1 : (XT.cmpL q0 q1) < (0 : Int32)) => ?_) (fun (c1 : ¬ (XT.cmpL q0 q1) < (0 : Int32)) => ?_)
  · replace c1 := cmpL_lt0.mp c1
    refine g_lloadN W0 d6_10 (pc' := 11) rfl rfl ?_
    exact g_lreturn W0 d6_11 ⟨⟨_, rfl, by rw [Int64.lt_iff_toInt_lt] at c1; omega⟩, H0⟩ (by decide) (by decide)
  · replace c1 : ¬ q0 < q1 := fun q => c1 (cmpL_lt0.mpr q)
    refine g_lloadN W0 d6_6 (pc' := 7) rfl rfl ?_
    refine g_goto W0 d6_7 (pc' := 11) (by decide) ?_
    exact g_lreturn W0 d6_11 ⟨⟨_, rfl, by rw [Int64.lt_iff_toInt_lt] at c1; omega⟩, H0⟩ (by decide) (by decide)
set_option maxRecDepth 65536 in
set_option maxHeartbeats 40000000 in
theorem law_con (l : Launch) (Z : State) (a0 : Array Value) (hw : ∀ d ∈ tables_1, d.before a0 Z = true) (n0 : Nat) (p0 p1 p2 p3 : Int32) (h0 : Heap) (H00 : Hp Z n0 h0 []) :
    ConW l Z n0 x tables_1 code maxLocals ret room_1 #[.int p0, .int p1, .int p2, .int p3] h0 (fun v _ => v = some (.int 1)) := by
  refine conW_of (plainFor_of_name pn_BaseUnitScalePinLaw) ?_
  intro p e s m below meth c T0 W0 e0
  have H0 : Hp Z n0 T0.heap [] := e0 ▸ H00
  refine g_cast (ef_0 m p0 p1 p2 p3) ?_
  refine g_iloadN W0 at_0 (pc' := 1) rfl rfl ?_
  refine g_ldcInt W0 (wd_0 hw) at_1 (pc' := 3) rfl ?_
  refine g_iand W0 at_3 (pc' := 4) rfl rfl ?_
  refine g_i2l W0 at_4 (pc' := 5) rfl rfl ?_
  refine g_lstore W0 at_5 (pc' := 7) rfl (ls' := #[.val (.int p0), .val (.int p1), .val (.int p2), .val (.int p3), .val (.long (p1 &&& (1048575 : Int32)).toInt64), .second, .unset, .unset, .unset, .unset, .unset, .unset, .unset, .unset, .unset, .unset, .unset, .unset, .unset, .unset, .unset, .unset]) rfl ?_
  refine g_iloadN W0 at_7 (pc' := 8) rfl rfl ?_
  refine g_iconst W0 at_8 (pc' := 9) rfl (v := (1 : Int32)) (by decide) ?_
  refine g_iand W0 at_9 (pc' := 10) rfl rfl ?_
  have J1 : ∀ (TJJ1 : State) (mm : Int64) (hm : mm.toInt.natAbs ≤ 1048575), Wk Z x code maxLocals ret n0 p l e room_1 s m #[.int p0, .int p1, .int p2, .int p3] below meth c TJJ1 0 0 → Hp Z n0 TJJ1.heap [] → Goes p e below (EnW s n0 (Room.cells room_1) (Room.slots room_1) (fun v _ => v = some (.int 1))) (TJJ1.setTop (mkF m 18 #[.val (.int p0), .val (.int p1), .val (.int p2), .val (.int p3), .val (.long mm), .second, .unset, .unset, .unset, .unset, .unset, .unset, .unset, .unset, .unset, .unset, .unset, .unset, .unset, .unset, .unset, .unset] [])) := by
    intro TJJ1 mm hm WJJ1 HJJ1
    refine g_iloadN WJJ1 at_18 (pc' := 19) rfl rfl ?_
    refine g_iconst WJJ1 at_19 (pc' := 20) rfl (v := (4 : Int32)) (by decide) ?_
    refine g_iand WJJ1 at_20 (pc' := 21) rfl rfl ?_
    refine g_if WJJ1 at_21 (pcy := 28) (by decide) (pc' := 24) rfl (fun (c1 : (p3 &&& (4 : Int32)) = (0 : Int32)) => ?_) (fun (c1 : ¬ (p3 &&& (4 : Int32)) = (0 : Int32)) => ?_)
    · refine g_iconst WJJ1 at_28 (pc' := 29) rfl (v := (0 : Int32)) (by decide) ?_
      refine g_istore WJJ1 at_29 (pc' := 31) rfl (ls' := #[.val (.int p0), .val (.int p1), .val (.int p2), .val (.int p3), .val (.long mm), .second, .val (.int (0 : Int32)), .unset, .unset, .unset, .unset, .unset, .unset, .unset, .unset, .unset, .unset, .unset, .unset, .unset, .unset, .unset]) rfl ?_
      refine g_iload WJJ1 at_31 (pc' := 33) rfl rfl ?_
      refine g_if WJJ1 at_33 (pcy := 47) (by decide) (pc' := 36) rfl (fun _ => ?_) (fun (h : ¬ (0 : Int32) = (0 : Int32)) => absurd h (by decide))
      refine g_iloadN WJJ1 at_47 (pc' := 48) rfl rfl ?_
      refine g_ldcInt WJJ1 (wd_0 hw) at_48 (pc' := 50) rfl ?_
      refine g_iand WJJ1 at_50 (pc' := 51) rfl rfl ?_
      refine g_i2l WJJ1 at_51 (pc' := 52) rfl rfl ?_
      refine g_lconst WJJ1 at_52 (pc' := 53) rfl (v := (1 : Int64)) (by decide) ?_
      refine g_ladd WJJ1 at_53 (pc' := 54) rfl rfl ?_
      refine g_lstore WJJ1 at_54 (pc' := 56) rfl (ls' := #[.val (.int p0), .val (.int p1), .val (.int p2), .val (.int p3), .val (.long mm), .second, .val (.int (0 : Int32)), .val (.long ((p2 &&& (1048575 : Int32)).toInt64 + (1 : Int64))), .second, .unset, .unset, .unset, .unset, .unset, .unset, .unset, .unset, .unset, .unset, .unset, .unset, .unset]) rfl ?_
      have J3 : ∀ (TJJ3 : State) (dd : Int64) (h0 : dd.toInt ≠ 0) (hd : dd.toInt.natAbs ≤ 2147483648), Wk Z x code maxLocals ret n0 p l e room_1 s m #[.int p0, .int p1, .int p2, .int p3] below meth c TJJ3 0 0 → Hp Z n0 TJJ3.heap [] → Goes p e below (EnW s n0 (Room.cells room_1) (Room.slots room_1) (fun v _ => v = some (.int 1))) (TJJ3.setTop (mkF m 67 #[.val (.int p0), .val (.int p1), .val (.int p2), .val (.int p3), .val (.long mm), .second, .val (.int (0 : Int32)), .val (.long dd), .second, .unset, .unset, .unset, .unset, .unset, .unset, .unset, .unset, .unset, .unset, .unset, .unset, .unset] [])) := by
        intro TJJ3 dd h0 hd WJJ3 HJJ3
        refine g_iloadN WJJ3 at_67 (pc' := 68) rfl rfl ?_
        refine g_i2l WJJ3 at_68 (pc' := 69) rfl rfl ?_
        refine g_lload WJJ3 at_69 (pc' := 71) rfl rfl ?_
        refine g_lmul WJJ3 at_71 (pc' := 72) rfl rfl ?_
        refine g_lstore WJJ3 at_72 (pc' := 74) rfl (ls' := #[.val (.int p0), .val (.int p1), .val (.int p2), .val (.int p3), .val (.long mm), .second, .val (.int (0 : Int32)), .val (.long dd), .second, .val (.long (p0.toInt64 * mm)), .second, .unset, .unset, .unset, .unset, .unset, .unset, .unset, .unset, .unset, .unset, .unset]) rfl ?_
        refine g_new WJJ3 (wd_1 hw) (wd_2 hw) (wd_3 hw) (la_BaseUnit hw) (by decide) HJJ3 at_74 (pc' := 77) rfl (kc' := 1) (ks' := 3) rfl rfl (by decide) (by decide) ?_
        intro T2 a2 W2 H2
        refine g_dup W2 at_77 (pc' := 78) rfl rfl ?_
        refine g_ldcStr W2 (wd_4 hw) (own_atoms hw) H2 (n := 4) (by decide) (by decide) at_78 (pc' := 80) rfl (kc' := 3) (ks' := 11) rfl rfl (by decide) (by decide) ?_
        intro s3 T3 sa F W3 H3 hF
        replace H3 : Hp Z n0 T3.heap ((a2, ObC Z "com/example/tallymark/tallymark/text/BaseUnit" [("com/example/tallymark/tallymark/text/BaseUnit", "name", "Ljava/lang/String;", .null), ("com/example/tallymark/tallymark/text/BaseUnit", "multiplier", "D", .double 0), ("com/example/tallymark/tallymark/text/BaseUnit", "divisor", "D", .double 0)]) :: F) := H3
        refine g_lload W3 at_80 (pc' := 82) rfl rfl ?_
        refine g_l2d W3 at_82 (pc' := 83) rfl rfl ?_
        refine g_lload W3 at_83 (pc' := 85) rfl rfl ?_
        refine g_l2d W3 at_85 (pc' := 86) rfl rfl ?_
        refine g_callI W3 (argsL := [.ref sa, .double (FP.l2d mm), .double (FP.l2d dd)]) (st := [.ref a2]) rfl (wd_12 hw) (wd_13 hw) (wd_3 hw) (wd_14 hw) (by decide) (a := a2) (c_init l Z a0 hw n0 a2 sa (FP.l2d mm) (FP.l2d dd) _ _ H3) pd_1 rfl rfl rfl at_86 (pc' := 89) rfl (by decide) (Wn := 1) (Nat.le_of_eq rfl) (by decide) (kc' := 3) (ks' := 11) rfl rfl (by decide) (by decide) ?_
        intro T4 v4 W4 hp4
        obtain ⟨rfl, H4⟩ := hp4
        show Goes p e below _ (T4.setTop (mkF m 89 #[.val (.int p0), .val (.int p1), .val (.int p2), .val (.int p3), .val (.long mm), .second, .val (.int (0 : Int32)), .val (.long dd), .second, .val (.long (p0.toInt64 * mm)), .second, .unset, .unset, .unset, .unset, .unset, .unset, .unset, .unset, .unset, .unset, .unset] [.ref a2]))
        refine g_astore W4 at_89 (pc' := 91) rfl rfl (ls' := #[.val (.int p0), .val (.int p1), .val (.int p2), .val (.int p3), .val (.long mm), .second, .val (.int (0 : Int32)), .val (.long dd), .second, .val (.long (p0.toInt64 * mm)), .second, .val (.ref a2), .unset, .unset, .unset, .unset, .unset, .unset, .unset, .unset, .unset, .unset]) rfl ?_
        refine g_aload W4 at_91 (pc' := 93) rfl rfl rfl ?_
        refine g_iloadN W4 at_93 (pc' := 94) rfl rfl ?_
        refine g_i2d W4 at_94 (pc' := 95) rfl rfl ?_
        refine g_callV W4 (argsL := [.double (FP.i2d p0)]) (st := []) (wd_29 hw) (wd_30 hw) (wd_32 hw) (wd_31 hw) (wd_3 hw) (wd_33 hw) (by decide) (a := a2) H4 (i := 0) rfl (c_scale l Z a0 hw n0 a2 sa (FP.l2d mm) (FP.l2d dd) (FP.i2d p0) (own_prod p0 hm).nn (own_div_fin hm h0 hd) _ _ H4) pd_2 rfl rfl rfl at_95 (pc' := 98) rfl (by decide) (Wn := 0) (Nat.le_of_eq rfl) (by decide) (kc' := 3) (ks' := 11) rfl rfl (by decide) (by decide) ?_
        intro T5 v5 W5 hp5
        obtain ⟨rfl, H5⟩ := hp5
        show Goes p e below _ (T5.setTop (mkF m 98 #[.val (.int p0), .val (.int p1), .val (.int p2), .val (.int p3), .val (.long mm), .second, .val (.int (0 : Int32)), .val (.long dd), .second, .val (.long (p0.toInt64 * mm)), .second, .val (.ref a2), .unset, .unset, .unset, .unset, .unset, .unset, .unset, .unset, .unset, .unset] [.double (FP.ddiv (FP.dmul (FP.i2d p0) (FP.l2d mm)) (FP.l2d dd))]))
        refine g_dstore W5 at_98 (pc' := 100) rfl (ls' := #[.val (.int p0), .val (.int p1), .val (.int p2), .val (.int p3), .val (.long mm), .second, .val (.int (0 : Int32)), .val (.long dd), .second, .val (.long (p0.toInt64 * mm)), .second, .val (.ref a2), .val (.double (FP.ddiv (FP.dmul (FP.i2d p0) (FP.l2d mm)) (FP.l2d dd))), .second, .unset, .unset, .unset, .unset, .unset, .unset, .unset, .unset]) rfl ?_
        refine g_lload W5 at_100 (pc' := 102) rfl rfl ?_
        refine g_lload W5 at_102 (pc' := 104) rfl rfl ?_
        refine g_lrem W5 at_104 (pc' := 105) rfl (fun z => h0 (by rw [z]; decide)) rfl ?_
        refine g_lconst W5 at_105 (pc' := 106) rfl (v := (0 : Int64)) (by decide) ?_
        refine g_lcmp W5 at_106 (pc' := 107) rfl rfl ?_
        refine g_if W5 at_107 (pcy := 128) (by decide) (pc' := 110) rfl (fun (c6 : ¬ (XT.cmpL ((p0.toInt64 * mm) - (p0.toInt64 * mm) / dd * dd) (0 : Int64)) = (0 : Int32)) => ?_) (fun (c6 : ¬ ¬ (XT.cmpL ((p0.toInt64 * mm) - (p0.toInt64 * mm) / dd * dd) (0 : Int64)) = (0 : Int32)) => ?_)
        · replace c6 := fun q => c6 (cmpL_eq0.mpr q)
          refine g_iload W5 at_128 (pc' := 130) rfl rfl ?_
          refine g_if W5 at_130 (pcy := 152) (by decide) (pc' := 133) rfl (fun _ => ?_) (fun (h : ¬ (0 : Int32) = (0 : Int32)) => absurd h (by decide))
          refine g_lload W5 at_152 (pc' := 154) rfl rfl ?_
          refine g_lload W5 at_154 (pc' := 156) rfl rfl ?_
          refine g_ldiv W5 at_156 (pc' := 157) rfl (fun z => h0 (by rw [z]; decide)) rfl ?_
          refine g_lstore W5 at_157 (pc' := 159) rfl (ls' := #[.val (.int p0), .val (.int p1), .val (.int p2), .val (.int p3), .val (.long mm), .second, .val (.int (0 : Int32)), .val (.long dd), .second, .val (.long (p0.toInt64 * mm)), .second, .val (.ref a2), .val (.double (FP.ddiv (FP.dmul (FP.i2d p0) (FP.l2d mm)) (FP.l2d dd))), .second, .val (.long ((p0.toInt64 * mm) / dd)), .second, .unset, .unset, .unset, .unset, .unset, .unset]) rfl ?_
          refine g_lload W5 at_159 (pc' := 161) rfl rfl ?_
          refine g_lconst W5 at_161 (pc' := 162) rfl (v := (0 : Int64)) (by decide) ?_
          refine g_lcmp W5 at_162 (pc' := 163) rfl rfl ?_
          refine g_if W5 at_163 (pcy := 170) (by decide) (pc' := 166) rfl (fun (c7 : ¬ (XT.cmpL (p0.toInt64 * mm) (0 : Int64)) < (0 : Int32)) => ?_) (fun (c7 : ¬ ¬ (XT.cmpL (p0.toInt64 * mm) (0 : Int64)) < (0 : Int32)) => ?_)
          · refine g_iconst W5 at_170 (pc' := 171) rfl (v := (0 : Int32)) (by decide) ?_
            refine g_lload W5 at_171 (pc' := 173) rfl rfl ?_
            refine g_lconst W5 at_173 (pc' := 174) rfl (v := (0 : Int64)) (by decide) ?_
            refine g_lcmp W5 at_174 (pc' := 175) rfl rfl ?_
            refine g_if W5 at_175 (pcy := 182) (by decide) (pc' := 178) rfl (fun (c8 : ¬ (XT.cmpL dd (0 : Int64)) < (0 : Int32)) => ?_) (fun (c8 : ¬ ¬ (XT.cmpL dd (0 : Int64)) < (0 : Int32)) => ?_)
            · refine g_iconst W5 at_182 (pc' := 183) rfl (v := (0 : Int32)) (by decide) ?_
              refine g_icmp W5 at_183 (pcy := 192) (by decide) (pc' := 186) rfl (fun _ => ?_) (fun (h : ¬ (0 : Int32) = (0 : Int32)) => absurd h (by decide))
              refine g_lconst W5 at_192 (pc' := 193) rfl (v := (1 : Int64)) (by decide) ?_
              refine g_lstore W5 at_193 (pc' := 195) rfl (ls' := #[.val (.int p0), .val (.int p1), .val (.int p2), .val (.int p3), .val (.long mm), .second, .val (.int (0 : Int32)), .val (.long dd), .second, .val (.long (p0.toInt64 * mm)), .second, .val (.ref a2), .val (.double (FP.ddiv (FP.dmul (FP.i2d p0) (FP.l2d mm)) (FP.l2d dd))), .second, .val (.long ((p0.toInt64 * mm) / dd)), .second, .val (.long (1 : Int64)), .second, .unset, .unset, .unset, .unset]) rfl ?_
              refine g_lload W5 at_195 (pc' := 197) rfl rfl ?_
              refine g_lload W5 at_197 (pc' := 199) rfl rfl ?_
              refine g_lload W5 at_199 (pc' := 201) rfl rfl ?_
              refine g_ladd W5 at_201 (pc' := 202) rfl rfl ?_
              refine g_callS W5 (argsL := [.long ((p0.toInt64 * mm) / dd), .long (((p0.toInt64 * mm) / dd) + (1 : Int64))]) (st := []) (wd_35 hw) (wd_36 hw) (wd_37 hw) (wd_38 hw) (by decide) (c_min l Z a0 hw n0 ((p0.toInt64 * mm) / dd) (((p0.toInt64 * mm) / dd) + (1 : Int64)) _ _ H5) pd_3 rfl rfl rfl at_202 (pc' := 205) rfl (by decide) (Wn := 0) (Nat.le_of_eq rfl) (by decide) (kc' := 3) (ks' := 11) rfl rfl (by decide) (by decide) ?_
              intro T9 v9 W9 hp9
              obtain ⟨⟨lo, rfl, hlo⟩, H9⟩ := hp9
              show Goes p e below _ (T9.setTop (mkF m 205 #[.val (.int p0), .val (.int p1), .val (.int p2), .val (.int p3), .val (.long mm), .second, .val (.int (0 : Int32)), .val (.long dd), .second, .val (.long (p0.toInt64 * mm)), .second, .val (.ref a2), .val (.double (FP.ddiv (FP.dmul (FP.i2d p0) (FP.l2d mm)) (FP.l2d dd))), .second, .val (.long ((p0.toInt64 * mm) / dd)), .second, .val (.long (1 : Int64)), .second, .unset, .unset, .unset, .unset] [.long lo]))
              refine g_lstore W9 at_205 (pc' := 207) rfl (ls' := #[.val (.int p0), .val (.int p1), .val (.int p2), .val (.int p3), .val (.long mm), .second, .val (.int (0 : Int32)), .val (.long dd), .second, .val (.long (p0.toInt64 * mm)), .second, .val (.ref a2), .val (.double (FP.ddiv (FP.dmul (FP.i2d p0) (FP.l2d mm)) (FP.l2d dd))), .second, .val (.long ((p0.toInt64 * mm) / dd)), .second, .val (.long (1 : Int64)), .second, .val (.long lo), .second, .unset, .unset]) rfl ?_
              refine g_lload W9 at_207 (pc' := 209) rfl rfl ?_
              refine g_lload W9 at_209 (pc' := 211) rfl rfl ?_
              refine g_lload W9 at_211 (pc' := 213) rfl rfl ?_
              refine g_ladd W9 at_213 (pc' := 214) rfl rfl ?_
              refine g_callS W9 (argsL := [.long ((p0.toInt64 * mm) / dd), .long (((p0.toInt64 * mm) / dd) + (1 : Int64))]) (st := []) (wd_39 hw) (wd_40 hw) (wd_37 hw) (wd_41 hw) (by decide) (c_max l Z a0 hw n0 ((p0.toInt64 * mm) / dd) (((p0.toInt64 * mm) / dd) + (1 : Int64)) _ _ H9) pd_3 rfl rfl rfl at_214 (pc' := 217) rfl (by decide) (Wn := 0) (Nat.le_of_eq rfl) (by decide) (kc' := 3) (ks' := 11) rfl rfl (by decide) (by decide) ?_
              intro T10 v10 W10 hp10
              obtain ⟨⟨hi, rfl, hhi⟩, H10⟩ := hp10
              show Goes p e below _ (T10.setTop (mkF m 217 #[.val (.int p0), .val (.int p1), .val (.int p2), .val (.int p3), .val (.long mm), .second, .val (.int (0 : Int32)), .val (.long dd), .second, .val (.long (p0.toInt64 * mm)), .second, .val (.ref a2), .val (.double (FP.ddiv (FP.dmul (FP.i2d p0) (FP.l2d mm)) (FP.l2d dd))), .second, .val (.long ((p0.toInt64 * mm) / dd)), .second, .val (.long (1 : Int64)), .second, .val (.long lo), .second, .unset, .unset] [.long hi]))
              have hb := own_between hm h0 hd c6 (Or.inl ⟨⟨fun q => absurd (cmpL_lt0.mpr q) c7, fun q => absurd (cmpL_lt0.mpr q) c8⟩, rfl⟩) hlo hhi
              refine g_lstore W10 at_217 (pc' := 219) rfl (ls' := #[.val (.int p0), .val (.int p1), .val (.int p2), .val (.int p3), .val (.long mm), .second, .val (.int (0 : Int32)), .val (.long dd), .second, .val (.long (p0.toInt64 * mm)), .second, .val (.ref a2), .val (.double (FP.ddiv (FP.dmul (FP.i2d p0) (FP.l2d mm)) (FP.l2d dd))), .second, .val (.long ((p0.toInt64 * mm) / dd)), .second, .val (.long (1 : Int64)), .second, .val (.long lo), .second, .val (.long hi), .second]) rfl ?_
              refine g_lload W10 at_219 (pc' := 221) rfl rfl ?_
              refine g_l2d W10 at_221 (pc' := 222) rfl rfl ?_
              refine g_dload W10 at_222 (pc' := 224) rfl rfl ?_
              refine g_dcmp W10 at_224 (pc' := 225) rfl rfl ?_
              refine g_if W10 at_225 (pcy := 241) (by decide) (pc' := 228) rfl (fun (c11 : (0 : Int32) < (cmpValue (FP.dcmp (FP.l2d lo) (FP.ddiv (FP.dmul (FP.i2d p0) (FP.l2d mm)) (FP.l2d dd))) .g)) => ?_) (fun (c11 : ¬ (0 : Int32) < (cmpValue (FP.dcmp (FP.l2d lo) (FP.ddiv (FP.dmul (FP.i2d p0) (FP.l2d mm)) (FP.l2d dd))) .g)) => ?_)
              · exact absurd c11 hb.1
              · refine g_dload W10 at_228 (pc' := 230) rfl rfl ?_
                refine g_lload W10 at_230 (pc' := 232) rfl rfl ?_
                refine g_l2d W10 at_232 (pc' := 233) rfl rfl ?_
                refine g_dcmp W10 at_233 (pc' := 234) rfl rfl ?_
                refine g_if W10 at_234 (pcy := 241) (by decide) (pc' := 237) rfl (fun (c12 : (0 : Int32) < (cmpValue (FP.dcmp (FP.ddiv (FP.dmul (FP.i2d p0) (FP.l2d mm)) (FP.l2d dd)) (FP.l2d hi)) .g)) => ?_) (fun (c12 : ¬ (0 : Int32) < (cmpValue (FP.dcmp (FP.ddiv (FP.dmul (FP.i2d p0) (FP.l2d mm)) (FP.l2d dd)) (FP.l2d hi)) .g)) => ?_)
                · exact absurd c12 hb.2
                · refine g_iconst W10 at_237 (pc' := 238) rfl (v := (1 : Int32)) (by decide) ?_
                  refine g_goto W10 at_238 (pc' := 242) (by decide) ?_
                  exact g_zreturn W10 (by decide) at_242 ⟨rfl, hF _ [(a2, ObC Z "com/example/tallymark/tallymark/text/BaseUnit" [("com/example/tallymark/tallymark/text/BaseUnit", "name", "Ljava/lang/String;", .ref sa), ("com/example/tallymark/tallymark/text/BaseUnit", "multiplier", "D", .double (FP.l2d mm)), ("com/example/tallymark/tallymark/text/BaseUnit", "divisor", "D", .double (FP.l2d dd))])] H10 (fun x hx => hx)⟩ (by decide) (by decide)
            · replace c8 := Classical.not_not.mp c8
              refine g_iconst W5 at_178 (pc' := 179) rfl (v := (1 : Int32)) (by decide) ?_
              refine g_goto W5 at_179 (pc' := 183) (by decide) ?_
              refine g_icmp W5 at_183 (pcy := 192) (by decide) (pc' := 186) rfl (fun (h : (0 : Int32) = (1 : Int32)) => absurd h (by decide)) (fun _ => ?_)
              refine g_ldc2Long W5 (wd_34 hw) at_186 (pc' := 189) rfl ?_
              refine g_goto W5 at_189 (pc' := 193) (by decide) ?_
              refine g_lstore W5 at_193 (pc' := 195) rfl (ls' := #[.val (.int p0), .val (.int p1), .val (.int p2), .val (.int p3), .val (.long mm), .second, .val (.int (0 : Int32)), .val (.long dd), .second, .val (.long (p0.toInt64 * mm)), .second, .val (.ref a2), .val (.double (FP.ddiv (FP.dmul (FP.i2d p0) (FP.l2d mm)) (FP.l2d dd))), .second, .val (.long ((p0.toInt64 * mm) / dd)), .second, .val (.long (-1 : Int64)), .second, .unset, .unset, .unset, .unset]) rfl ?_
              refine g_lload W5 at_195 (pc' := 197) rfl rfl ?_
              refine g_lload W5 at_197 (pc' := 199) rfl rfl ?_
              refine g_lload W5 at_199 (pc' := 201) rfl rfl ?_
              refine g_ladd W5 at_201 (pc' := 202) rfl rfl ?_
              refine g_callS W5 (argsL := [.long ((p0.toInt64 * mm) / dd), .long (((p0.toInt64 * mm) / dd) + (-1 : Int64))]) (st := []) (wd_35 hw) (wd_36 hw) (wd_37 hw) (wd_38 hw) (by decide) (c_min l Z a0 hw n0 ((p0.toInt64 * mm) / dd) (((p0.toInt64 * mm) / dd) + (-1 : Int64)) _ _ H5) pd_3 rfl rfl rfl at_202 (pc' := 205) rfl (by decide) (Wn := 0) (Nat.le_of_eq rfl) (by decide) (kc' := 3) (ks' := 11) rfl rfl (by decide) (by decide) ?_
              intro T13 v13 W13 hp13
              obtain ⟨⟨lo, rfl, hlo⟩, H13⟩ := hp13
              show Goes p e below _ (T13.setTop (mkF m 205 #[.val (.int p0), .val (.int p1), .val (.int p2), .val (.int p3), .val (.long mm), .second, .val (.int (0 : Int32)), .val (.long dd), .second, .val (.long (p0.toInt64 * mm)), .second, .val (.ref a2), .val (.double (FP.ddiv (FP.dmul (FP.i2d p0) (FP.l2d mm)) (FP.l2d dd))), .second, .val (.long ((p0.toInt64 * mm) / dd)), .second, .val (.long (-1 : Int64)), .second, .unset, .unset, .unset, .unset] [.long lo]))
              refine g_lstore W13 at_205 (pc' := 207) rfl (ls' := #[.val (.int p0), .val (.int p1), .val (.int p2), .val (.int p3), .val (.long mm), .second, .val (.int (0 : Int32)), .val (.long dd), .second, .val (.long (p0.toInt64 * mm)), .second, .val (.ref a2), .val (.double (FP.ddiv (FP.dmul (FP.i2d p0) (FP.l2d mm)) (FP.l2d dd))), .second, .val (.long ((p0.toInt64 * mm) / dd)), .second, .val (.long (-1 : Int64)), .second, .val (.long lo), .second, .unset, .unset]) rfl ?_
              refine g_lload W13 at_207 (pc' := 209) rfl rfl ?_
              refine g_lload W13 at_209 (pc' := 211) rfl rfl ?_
              refine g_lload W13 at_211 (pc' := 213) rfl rfl ?_
              refine g_ladd W13 at_213 (pc' := 214) rfl rfl ?_
              refine g_callS W13 (argsL := [.long ((p0.toInt64 * mm) / dd), .long (((p0.toInt64 * mm) / dd) + (-1 : Int64))]) (st := []) (wd_39 hw) (wd_40 hw) (wd_37 hw) (wd_41 hw) (by decide) (c_max l Z a0 hw n0 ((p0.toInt64 * mm) / dd) (((p0.toInt64 * mm) / dd) + (-1 : Int64)) _ _ H13) pd_3 rfl rfl rfl at_214 (pc' := 217) rfl (by decide) (Wn := 0) (Nat.le_of_eq rfl) (by decide) (kc' := 3) (ks' := 11) rfl rfl (by decide) (by decide) ?_
              intro T14 v14 W14 hp14
              obtain ⟨⟨hi, rfl, hhi⟩, H14⟩ := hp14
              show Goes p e below _ (T14.setTop (mkF m 217 #[.val (.int p0), .val (.int p1), .val (.int p2), .val (.int p3), .val (.long mm), .second, .val (.int (0 : Int32)), .val (.long dd), .second, .val (.long (p0.toInt64 * mm)), .second, .val (.ref a2), .val (.double (FP.ddiv (FP.dmul (FP.i2d p0) (FP.l2d mm)) (FP.l2d dd))), .second, .val (.long ((p0.toInt64 * mm) / dd)), .second, .val (.long (-1 : Int64)), .second, .val (.long lo), .second, .unset, .unset] [.long hi]))
              have hb := own_between hm h0 hd c6 (Or.inr ⟨fun q => absurd (cmpL_lt0.mpr (q.mpr (cmpL_lt0.mp c8))) c7, rfl⟩) hlo hhi
              refine g_lstore W14 at_217 (pc' := 219) rfl (ls' := #[.val (.int p0), .val (.int p1), .val (.int p2), .val (.int p3), .val (.long mm), .second, .val (.int (0 : Int32)), .val (.long dd), .second, .val (.long (p0.toInt64 * mm)), .second, .val (.ref a2), .val (.double (FP.ddiv (FP.dmul (FP.i2d p0) (FP.l2d mm)) (FP.l2d dd))), .second, .val (.long ((p0.toInt64 * mm) / dd)), .second, .val (.long (-1 : Int64)), .second, .val (.long lo), .second, .val (.long hi), .second]) rfl ?_
              refine g_lload W14 at_219 (pc' := 221) rfl rfl ?_
              refine g_l2d W14 at_221 (pc' := 222) rfl rfl ?_
              refine g_dload W14 at_222 (pc' := 224) rfl rfl ?_
              refine g_dcmp W14 at_224 (pc' := 225) rfl rfl ?_
              refine g_if W14 at_225 (pcy := 241) (by decide) (pc' := 228) rfl (fun (c15 : (0 : Int32) < (cmpValue (FP.dcmp (FP.l2d lo) (FP.ddiv (FP.dmul (FP.i2d p0) (FP.l2d mm)) (FP.l2d dd))) .g)) => ?_) (fun (c15 : ¬ (0 : Int32) < (cmpValue (FP.dcmp (FP.l2d lo) (FP.ddiv (FP.dmul (FP.i2d p0) (FP.l2d mm)) (FP.l2d dd))) .g)) => ?_)
              · exact absurd c15 hb.1
              · refine g_dload W14 at_228 (pc' := 230) rfl rfl ?_
                refine g_lload W14 at_230 (pc' := 232) rfl rfl ?_
                refine g_l2d W14 at_232 (pc' := 233) rfl rfl ?_
                refine g_dcmp W14 at_233 (pc' := 234) rfl rfl ?_
                refine g_if W14 at_234 (pcy := 241) (by decide) (pc' := 237) rfl (fun (c16 : (0 : Int32) < (cmpValue (FP.dcmp (FP.ddiv (FP.dmul (FP.i2d p0) (FP.l2d mm)) (FP.l2d dd)) (FP.l2d hi)) .g)) => ?_) (fun (c16 : ¬ (0 : Int32) < (cmpValue (FP.dcmp (FP.ddiv (FP.dmul (FP.i2d p0) (FP.l2d mm)) (FP.l2d dd)) (FP.l2d hi)) .g)) => ?_)
                · exact absurd c16 hb.2
                · refine g_iconst W14 at_237 (pc' := 238) rfl (v := (1 : Int32)) (by decide) ?_
                  refine g_goto W14 at_238 (pc' := 242) (by decide) ?_
                  exact g_zreturn W14 (by decide) at_242 ⟨rfl, hF _ [(a2, ObC Z "com/example/tallymark/tallymark/text/BaseUnit" [("com/example/tallymark/tallymark/text/BaseUnit", "name", "Ljava/lang/String;", .ref sa), ("com/example/tallymark/tallymark/text/BaseUnit", "multiplier", "D", .double (FP.l2d mm)), ("com/example/tallymark/tallymark/text/BaseUnit", "divisor", "D", .double (FP.l2d dd))])] H14 (fun x hx => hx)⟩ (by decide) (by decide)
          · replace c7 := Classical.not_not.mp c7
            refine g_iconst W5 at_166 (pc' := 167) rfl (v := (1 : Int32)) (by decide) ?_
            refine g_goto W5 at_167 (pc' := 171) (by decide) ?_
            refine g_lload W5 at_171 (pc' := 173) rfl rfl ?_
            refine g_lconst W5 at_173 (pc' := 174) rfl (v := (0 : Int64)) (by decide) ?_
            refine g_lcmp W5 at_174 (pc' := 175) rfl rfl ?_
            refine g_if W5 at_175 (pcy := 182) (by decide) (pc' := 178) rfl (fun (c17 : ¬ (XT.cmpL dd (0 : Int64)) < (0 : Int32)) => ?_) (fun (c17 : ¬ ¬ (XT.cmpL dd (0 : Int64)) < (0 : Int32)) => ?_)
            · refine g_iconst W5 at_182 (pc' := 183) rfl (v := (0 : Int32)) (by decide) ?_
              refine g_icmp W5 at_183 (pcy := 192) (by decide) (pc' := 186) rfl (fun (h : (1 : Int32) = (0 : Int32)) => absurd h (by decide)) (fun _ => ?_)
              refine g_ldc2Long W5 (wd_34 hw) at_186 (pc' := 189) rfl ?_
              refine g_goto W5 at_189 (pc' := 193) (by decide) ?_
              refine g_lstore W5 at_193 (pc' := 195) rfl (ls' := #[.val (.int p0), .val (.int p1), .val (.int p2), .val (.int p3), .val (.long mm), .second, .val (.int (0 : Int32)), .val (.long dd), .second, .val (.long (p0.toInt64 * mm)), .second, .val (.ref a2), .val (.double (FP.ddiv (FP.dmul (FP.i2d p0) (FP.l2d mm)) (FP.l2d dd))), .second, .val (.long ((p0.toInt64 * mm) / dd)), .second, .val (.long (-1 : Int64)), .second, .unset, .unset, .unset, .unset]) rfl ?_
              refine g_lload W5 at_195 (pc' := 197) rfl rfl ?_
              refine g_lload W5 at_197 (pc' := 199) rfl rfl ?_
              refine g_lload W5 at_199 (pc' := 201) rfl rfl ?_
              refine g_ladd W5 at_201 (pc' := 202) rfl rfl ?_
              refine g_callS W5 (argsL := [.long ((p0.toInt64 * mm) / dd), .long (((p0.toInt64 * mm) / dd) + (-1 : Int64))]) (st := []) (wd_35 hw) (wd_36 hw) (wd_37 hw) (wd_38 hw) (by decide) (c_min l Z a0 hw n0 ((p0.toInt64 * mm) / dd) (((p0.toInt64 * mm) / dd) + (-1 : Int64)) _ _ H5) pd_3 rfl rfl rfl at_202 (pc' := 205) rfl (by decide) (Wn := 0) (Nat.le_of_eq rfl) (by decide) (kc' := 3) (ks' := 11) rfl rfl (by decide) (by decide) ?_
              intro T18 v18 W18 hp18
              obtain ⟨⟨lo, rfl, hlo⟩, H18⟩ := hp18
              show Goes p e below _ (T18.setTop (mkF m 205 #[.val (.int p0), .val (.int p1), .val (.int p2), .val (.int p3), .val (.long mm), .second, .val (.int (0 : Int32)), .val (.long dd), .second, .val (.long (p0.toInt64 * mm)), .second, .val (.ref a2), .val (.double (FP.ddiv (FP.dmul (FP.i2d p0) (FP.l2d mm)) (FP.l2d dd))), .second, .val (.long ((p0.toInt64 * mm) / dd)), .second, .val (.long (-1 : Int64)), .second, .unset, .unset, .unset, .unset] [.long lo]))
              refine g_lstore W18 at_205 (pc' := 207) rfl (ls' := #[.val (.int p0), .val (.int p1), .val (.int p2), .val (.int p3), .val (.long mm), .second, .val (.int (0 : Int32)), .val (.long dd), .second, .val (.long (p0.toInt64 * mm)), .second, .val (.ref a2), .val (.double (FP.ddiv (FP.dmul (FP.i2d p0) (FP.l2d mm)) (FP.l2d dd))), .second, .val (.long ((p0.toInt64 * mm) / dd)), .second, .val (.long (-1 : Int64)), .second, .val (.long lo), .second, .unset, .unset]) rfl ?_
              refine g_lload W18 at_207 (pc' := 209) rfl rfl ?_
              refine g_lload W18 at_209 (pc' := 211) rfl rfl ?_
              refine g_lload W18 at_211 (pc' := 213) rfl rfl ?_
              refine g_ladd W18 at_213 (pc' := 214) rfl rfl ?_
              refine g_callS W18 (argsL := [.long ((p0.toInt64 * mm) / dd), .long (((p0.toInt64 * mm) / dd) + (-1 : Int64))]) (st := []) (wd_39 hw) (wd_40 hw) (wd_37 hw) (wd_41 hw) (by decide) (c_max l Z a0 hw n0 ((p0.toInt64 * mm) / dd) (((p0.toInt64 * mm) / dd) + (-1 : Int64)) _ _ H18) pd_3 rfl rfl rfl at_214 (pc' := 217) rfl (by decide) (Wn := 0) (Nat.le_of_eq rfl) (by decide) (kc' := 3) (ks' := 11) rfl rfl (by decide) (by decide) ?_
              intro T19 v19 W19 hp19
              obtain ⟨⟨hi, rfl, hhi⟩, H19⟩ := hp19
              show Goes p e below _ (T19.setTop (mkF m 217 #[.val (.int p0), .val (.int p1), .val (.int p2), .val (.int p3), .val (.long mm), .second, .val (.int (0 : Int32)), .val (.long dd), .second, .val (.long (p0.toInt64 * mm)), .second, .val (.ref a2), .val (.double (FP.ddiv (FP.dmul (FP.i2d p0) (FP.l2d mm)) (FP.l2d dd))), .second, .val (.long ((p0.toInt64 * mm) / dd)), .second, .val (.long (-1 : Int64)), .second, .val (.long lo), .second, .unset, .unset] [.long hi]))
              have hb := own_between hm h0 hd c6 (Or.inr ⟨fun q => absurd (cmpL_lt0.mpr (q.mp (cmpL_lt0.mp c7))) c17, rfl⟩) hlo hhi
              refine g_lstore W19 at_217 (pc' := 219) rfl (ls' := #[.val (.int p0), .val (.int p1), .val (.int p2), .val (.int p3), .val (.long mm), .second, .val (.int (0 : Int32)), .val (.long dd), .second, .val (.long (p0.toInt64 * mm)), .second, .val (.ref a2), .val (.double (FP.ddiv (FP.dmul (FP.i2d p0) (FP.l2d mm)) (FP.l2d dd))), .second, .val (.long ((p0.toInt64 * mm) / dd)), .second, .val (.long (-1 : Int64)), .second, .val (.long lo), .second, .val (.long hi), .second]) rfl ?_
              refine g_lload W19 at_219 (pc' := 221) rfl rfl ?_
              refine g_l2d W19 at_221 (pc' := 222) rfl rfl ?_
              refine g_dload W19 at_222 (pc' := 224) rfl rfl ?_
              refine g_dcmp W19 at_224 (pc' := 225) rfl rfl ?_
              refine g_if W19 at_225 (pcy := 241) (by decide) (pc' := 228) rfl (fun (c20 : (0 : Int32) < (cmpValue (FP.dcmp (FP.l2d lo) (FP.ddiv (FP.dmul (FP.i2d p0) (FP.l2d mm)) (FP.l2d dd))) .g)) => ?_) (fun (c20 : ¬ (0 : Int32) < (cmpValue (FP.dcmp (FP.l2d lo) (FP.ddiv (FP.dmul (FP.i2d p0) (FP.l2d mm)) (FP.l2d dd))) .g)) => ?_)
              · exact absurd c20 hb.1
              · refine g_dload W19 at_228 (pc' := 230) rfl rfl ?_
                refine g_lload W19 at_230 (pc' := 232) rfl rfl ?_
                refine g_l2d W19 at_232 (pc' := 233) rfl rfl ?_
                refine g_dcmp W19 at_233 (pc' := 234) rfl rfl ?_
                refine g_if W19 at_234 (pcy := 241) (by decide) (pc' := 237) rfl (fun (c21 : (0 : Int32) < (cmpValue (FP.dcmp (FP.ddiv (FP.dmul (FP.i2d p0) (FP.l2d mm)) (FP.l2d dd)) (FP.l2d hi)) .g)) => ?_) (fun (c21 : ¬ (0 : Int32) < (cmpValue (FP.dcmp (FP.ddiv (FP.dmul (FP.i2d p0) (FP.l2d mm)) (FP.l2d dd)) (FP.l2d hi)) .g)) => ?_)
                · exact absurd c21 hb.2
                · refine g_iconst W19 at_237 (pc' := 238) rfl (v := (1 : Int32)) (by decide) ?_
                  refine g_goto W19 at_238 (pc' := 242) (by decide) ?_
                  exact g_zreturn W19 (by decide) at_242 ⟨rfl, hF _ [(a2, ObC Z "com/example/tallymark/tallymark/text/BaseUnit" [("com/example/tallymark/tallymark/text/BaseUnit", "name", "Ljava/lang/String;", .ref sa), ("com/example/tallymark/tallymark/text/BaseUnit", "multiplier", "D", .double (FP.l2d mm)), ("com/example/tallymark/tallymark/text/BaseUnit", "divisor", "D", .double (FP.l2d dd))])] H19 (fun x hx => hx)⟩ (by decide) (by decide)
            · replace c17 := Classical.not_not.mp c17
              refine g_iconst W5 at_178 (pc' := 179) rfl (v := (1 : Int32)) (by decide) ?_
              refine g_goto W5 at_179 (pc' := 183) (by decide) ?_
              refine g_icmp W5 at_183 (pcy := 192) (by decide) (pc' := 186) rfl (fun _ => ?_) (fun (h : ¬ (1 : Int32) = (1 : Int32)) => absurd h (by decide))
              refine g_lconst W5 at_192 (pc' := 193) rfl (v := (1 : Int64)) (by decide) ?_
              refine g_lstore W5 at_193 (pc' := 195) rfl (ls' := #[.val (.int p0), .val (.int p1), .val (.int p2), .val (.int p3), .val (.long mm), .second, .val (.int (0 : Int32)), .val (.long dd), .second, .val (.long (p0.toInt64 * mm)), .second, .val (.ref a2), .val (.double (FP.ddiv (FP.dmul (FP.i2d p0) (FP.l2d mm)) (FP.l2d dd))), .second, .val (.long ((p0.toInt64 * mm) / dd)), .second, .val (.long (1 : Int64)), .second, .unset, .unset, .unset, .unset]) rfl ?_
              refine g_lload W5 at_195 (pc' := 197) rfl rfl ?_
              refine g_lload W5 at_197 (pc' := 199) rfl rfl ?_
              refine g_lload W5 at_199 (pc' := 201) rfl rfl ?_
              refine g_ladd W5 at_201 (pc' := 202) rfl rfl ?_
              refine g_callS W5 (argsL := [.long ((p0.toInt64 * mm) / dd), .long (((p0.toInt64 * mm) / dd) + (1 : Int64))]) (st := []) (wd_35 hw) (wd_36 hw) (wd_37 hw) (wd_38 hw) (by decide) (c_min l Z a0 hw n0 ((p0.toInt64 * mm) / dd) (((p0.toInt64 * mm) / dd) + (1 : Int64)) _ _ H5) pd_3 rfl rfl rfl at_202 (pc' := 205) rfl (by decide) (Wn := 0) (Nat.le_of_eq rfl) (by decide) (kc' := 3) (ks' := 11) rfl rfl (by decide) (by decide) ?_
              intro T22 v22 W22 hp22
              obtain ⟨⟨lo, rfl, hlo⟩, H22⟩ := hp22
              show Goes p e below _ (T22.setTop (mkF m 205 #[.val (.int p0), .val (.int p1), .val (.int p2), .val (.int p3), .val (.long mm), .second, .val (.int (0 : Int32)), .val (.long dd), .second, .val (.long (p0.toInt64 * mm)), .second, .val (.ref a2), .val (.double (FP.ddiv (FP.dmul (FP.i2d p0) (FP.l2d mm)) (FP.l2d dd))), .second, .val (.long ((p0.toInt64 * mm) / dd)), .second, .val (.long (1 : Int64)), .second, .unset, .unset, .unset, .unset] [.long lo]))
              refine g_lstore W22 at_205 (pc' := 207) rfl (ls' := #[.val (.int p0), .val (.int p1), .val (.int p2), .val (.int p3), .val (.long mm), .second, .val (.int (0 : Int32)), .val (.long dd), .second, .val (.long (p0.toInt64 * mm)), .second, .val (.ref a2), .val (.double (FP.ddiv (FP.dmul (FP.i2d p0) (FP.l2d mm)) (FP.l2d dd))), .second, .val (.long ((p0.toInt64 * mm) / dd)), .second, .val (.long (1 : Int64)), .second, .val (.long lo), .second, .unset, .unset]) rfl ?_
              refine g_lload W22 at_207 (pc' := 209) rfl rfl ?_
              refine g_lload W22 at_209 (pc' := 211) rfl rfl ?_
              refine g_lload W22 at_211 (pc' := 213) rfl rfl ?_
              refine g_ladd W22 at_213 (pc' := 214) rfl rfl ?_
              refine g_callS W22 (argsL := [.long ((p0.toInt64 * mm) / dd), .long (((p0.toInt64 * mm) / dd) + (1 : Int64))]) (st := []) (wd_39 hw) (wd_40 hw) (wd_37 hw) (wd_41 hw) (by decide) (c_max l Z a0 hw n0 ((p0.toInt64 * mm) / dd) (((p0.toInt64 * mm) / dd) + (1 : Int64)) _ _ H22) pd_3 rfl rfl rfl at_214 (pc' := 217) rfl (by decide) (Wn := 0) (Nat.le_of_eq rfl) (by decide) (kc' := 3) (ks' := 11) rfl rfl (by decide) (by decide) ?_
              intro T23 v23 W23 hp23
              obtain ⟨⟨hi, rfl, hhi⟩, H23⟩ := hp23
              show Goes p e below _ (T23.setTop (mkF m 217 #[.val (.int p0), .val (.int p1), .val (.int p2), .val (.int p3), .val (.long mm), .second, .val (.int (0 : Int32)), .val (.long dd), .second, .val (.long (p0.toInt64 * mm)), .second, .val (.ref a2), .val (.double (FP.ddiv (FP.dmul (FP.i2d p0) (FP.l2d mm)) (FP.l2d dd))), .second, .val (.long ((p0.toInt64 * mm) / dd)), .second, .val (.long (1 : Int64)), .second, .val (.long lo), .second, .unset, .unset] [.long hi]))
              have hb := own_between hm h0 hd c6 (Or.inl ⟨⟨fun _ => cmpL_lt0.mp c17, fun _ => cmpL_lt0.mp c7⟩, rfl⟩) hlo hhi
              refine g_lstore W23 at_217 (pc' := 219) rfl (ls' := #[.val (.int p0), .val (.int p1), .val (.int p2), .val (.int p3), .val (.long mm), .second, .val (.int (0 : Int32)), .val (.long dd), .second, .val (.long (p0.toInt64 * mm)), .second, .val (.ref a2), .val (.double (FP.ddiv (FP.dmul (FP.i2d p0) (FP.l2d mm)) (FP.l2d dd))), .second, .val (.long ((p0.toInt64 * mm) / dd)), .second, .val (.long (1 : Int64)), .second, .val (.long lo), .second, .val (.long hi), .second]) rfl ?_
              refine g_lload W23 at_219 (pc' := 221) rfl rfl ?_
              refine g_l2d W23 at_221 (pc' := 222) rfl rfl ?_
              refine g_dload W23 at_222 (pc' := 224) rfl rfl ?_
              refine g_dcmp W23 at_224 (pc' := 225) rfl rfl ?_
              refine g_if W23 at_225 (pcy := 241) (by decide) (pc' := 228) rfl (fun (c24 : (0 : Int32) < (cmpValue (FP.dcmp (FP.l2d lo) (FP.ddiv (FP.dmul (FP.i2d p0) (FP.l2d mm)) (FP.l2d dd))) .g)) => ?_) (fun (c24 : ¬ (0 : Int32) < (cmpValue (FP.dcmp (FP.l2d lo) (FP.ddiv (FP.dmul (FP.i2d p0) (FP.l2d mm)) (FP.l2d dd))) .g)) => ?_)
              · exact absurd c24 hb.1
              · refine g_dload W23 at_228 (pc' := 230) rfl rfl ?_
                refine g_lload W23 at_230 (pc' := 232) rfl rfl ?_
                refine g_l2d W23 at_232 (pc' := 233) rfl rfl ?_
                refine g_dcmp W23 at_233 (pc' := 234) rfl rfl ?_
                refine g_if W23 at_234 (pcy := 241) (by decide) (pc' := 237) rfl (fun (c25 : (0 : Int32) < (cmpValue (FP.dcmp (FP.ddiv (FP.dmul (FP.i2d p0) (FP.l2d mm)) (FP.l2d dd)) (FP.l2d hi)) .g)) => ?_) (fun (c25 : ¬ (0 : Int32) < (cmpValue (FP.dcmp (FP.ddiv (FP.dmul (FP.i2d p0) (FP.l2d mm)) (FP.l2d dd)) (FP.l2d hi)) .g)) => ?_)
                · exact absurd c25 hb.2
                · refine g_iconst W23 at_237 (pc' := 238) rfl (v := (1 : Int32)) (by decide) ?_
                  refine g_goto W23 at_238 (pc' := 242) (by decide) ?_
                  exact g_zreturn W23 (by decide) at_242 ⟨rfl, hF _ [(a2, ObC Z "com/example/tallymark/tallymark/text/BaseUnit" [("com/example/tallymark/tallymark/text/BaseUnit", "name", "Ljava/lang/String;", .ref sa), ("com/example/tallymark/tallymark/text/BaseUnit", "multiplier", "D", .double (FP.l2d mm)), ("com/example/tallymark/tallymark/text/BaseUnit", "divisor", "D", .double (FP.l2d dd))])] H23 (fun x hx => hx)⟩ (by decide) (by decide)
        · replace c6 := Classical.not_not.mp c6
          replace c6 := cmpL_eq0.mp c6
          refine g_dload W5 at_110 (pc' := 112) rfl rfl ?_
          refine g_lload W5 at_112 (pc' := 114) rfl rfl ?_
          refine g_lload W5 at_114 (pc' := 116) rfl rfl ?_
          refine g_ldiv W5 at_116 (pc' := 117) rfl (fun z => h0 (by rw [z]; decide)) rfl ?_
          refine g_l2d W5 at_117 (pc' := 118) rfl rfl ?_
          refine g_dcmp W5 at_118 (pc' := 119) rfl rfl ?_
          rw [show (cmpValue (FP.dcmp (FP.ddiv (FP.dmul (FP.i2d p0) (FP.l2d mm)) (FP.l2d dd)) (FP.l2d ((p0.toInt64 * mm) / dd))) .l) = (0 : Int32) from own_exact hm h0 hd c6]
          refine g_if W5 at_119 (pcy := 126) (by decide) (pc' := 122) rfl (fun (h : ¬ (0 : Int32) = (0 : Int32)) => absurd h (by decide)) (fun _ => ?_)
          refine g_iconst W5 at_122 (pc' := 123) rfl (v := (1 : Int32)) (by decide) ?_
          refine g_goto W5 at_123 (pc' := 127) (by decide) ?_
          exact g_zreturn W5 (by decide) at_127 ⟨rfl, hF _ [(a2, ObC Z "com/example/tallymark/tallymark/text/BaseUnit" [("com/example/tallymark/tallymark/text/BaseUnit", "name", "Ljava/lang/String;", .ref sa), ("com/example/tallymark/tallymark/text/BaseUnit", "multiplier", "D", .double (FP.l2d mm)), ("com/example/tallymark/tallymark/text/BaseUnit", "divisor", "D", .double (FP.l2d dd))])] H5 (fun x hx => hx)⟩ (by decide) (by decide)
      have hv := own_dd1 p2
      refine g_iloadN WJJ1 at_56 (pc' := 57) rfl rfl ?_
      refine g_iconst WJJ1 at_57 (pc' := 58) rfl (v := (2 : Int32)) (by decide) ?_
      refine g_iand WJJ1 at_58 (pc' := 59) rfl rfl ?_
      refine g_if WJJ1 at_59 (pcy := 67) (by decide) (pc' := 62) rfl (fun (c26 : (p3 &&& (2 : Int32)) = (0 : Int32)) => ?_) (fun (c26 : ¬ (p3 &&& (2 : Int32)) = (0 : Int32)) => ?_)
      · exact J3 _ _ (by rw [hv]; omega) (by rw [hv]; omega) WJJ1 HJJ1
      · refine g_lload WJJ1 at_62 (pc' := 64) rfl rfl ?_
        refine g_lneg WJJ1 at_64 (pc' := 65) rfl rfl ?_
        refine g_lstore WJJ1 at_65 (pc' := 67) rfl (ls' := #[.val (.int p0), .val (.int p1), .val (.int p2), .val (.int p3), .val (.long mm), .second, .val (.int (0 : Int32)), .val (.long (-((p2 &&& (1048575 : Int32)).toInt64 + (1 : Int64)))), .second, .unset, .unset, .unset, .unset, .unset, .unset, .unset, .unset, .unset, .unset, .unset, .unset, .unset]) rfl ?_
        exact J3 _ _ (by rw [own_neg (by rw [hv]; omega), hv]; omega) (by rw [own_neg (by rw [hv]; omega), hv]; omega) WJJ1 HJJ1
    · refine g_iconst WJJ1 at_24 (pc' := 25) rfl (v := (1 : Int32)) (by decide) ?_
      refine g_goto WJJ1 at_25 (pc' := 29) (by decide) ?_
      refine g_istore WJJ1 at_29 (pc' := 31) rfl (ls' := #[.val (.int p0), .val (.int p1), .val (.int p2), .val (.int p3), .val (.long mm), .second, .val (.int (1 : Int32)), .unset, .unset, .unset, .unset, .unset, .unset, .unset, .unset, .unset, .unset, .unset, .unset, .unset, .unset, .unset]) rfl ?_
      refine g_iload WJJ1 at_31 (pc' := 33) rfl rfl ?_
      refine g_if WJJ1 at_33 (pcy := 47) (by decide) (pc' := 36) rfl (fun (h : (1 : Int32) = (0 : Int32)) => absurd h (by decide)) (fun _ => ?_)
      refine g_lconst WJJ1 at_36 (pc' := 37) rfl (v := (1 : Int64)) (by decide) ?_
      refine g_iloadN WJJ1 at_37 (pc' := 38) rfl rfl ?_
      refine g_bipush WJJ1 at_38 (pc' := 40) rfl (v := (31 : Int32)) (by decide) ?_
      refine g_iand WJJ1 at_40 (pc' := 41) rfl rfl ?_
      refine g_lshl WJJ1 at_41 (pc' := 42) rfl rfl ?_
      refine g_lstore WJJ1 at_42 (pc' := 44) rfl (ls' := #[.val (.int p0), .val (.int p1), .val (.int p2), .val (.int p3), .val (.long mm), .second, .val (.int (1 : Int32)), .val (.long ((1 : Int64) <<< ((p2 &&& (31 : Int32)).toInt64 &&& 63))), .second, .unset, .unset, .unset, .unset, .unset, .unset, .unset, .unset, .unset, .unset, .unset, .unset, .unset]) rfl ?_
      refine g_goto WJJ1 at_44 (pc' := 56) (by decide) ?_
      have J3 : ∀ (TJJ3 : State) (dd : Int64) (h0 : dd.toInt ≠ 0) (hd : dd.toInt.natAbs ≤ 2147483648) (hp : ∃ t : Nat, t ≤ 31 ∧ dd.toInt.natAbs = 2 ^ t), Wk Z x code maxLocals ret n0 p l e room_1 s m #[.int p0, .int p1, .int p2, .int p3] below meth c TJJ3 0 0 → Hp Z n0 TJJ3.heap [] → Goes p e below (EnW s n0 (Room.cells room_1) (Room.slots room_1) (fun v _ => v = some (.int 1))) (TJJ3.setTop (mkF m 67 #[.val (.int p0), .val (.int p1), .val (.int p2), .val (.int p3), .val (.long mm), .second, .val (.int (1 : Int32)), .val (.long dd), .second, .unset, .unset, .unset, .unset, .unset, .unset, .unset, .unset, .unset, .unset, .unset, .unset, .unset] [])) := by
        intro TJJ3 dd h0 hd hp WJJ3 HJJ3
        refine g_iloadN WJJ3 at_67 (pc' := 68) rfl rfl ?_
        refine g_i2l WJJ3 at_68 (pc' := 69) rfl rfl ?_
        refine g_lload WJJ3 at_69 (pc' := 71) rfl rfl ?_
        refine g_lmul WJJ3 at_71 (pc' := 72) rfl rfl ?_
        refine g_lstore WJJ3 at_72 (pc' := 74) rfl (ls' := #[.val (.int p0), .val (.int p1), .val (.int p2), .val (.int p3), .val (.long mm), .second, .val (.int (1 : Int32)), .val (.long dd), .second, .val (.long (p0.toInt64 * mm)), .second, .unset, .unset, .unset, .unset, .unset, .unset, .unset, .unset, .unset, .unset, .unset]) rfl ?_
        refine g_new WJJ3 (wd_1 hw) (wd_2 hw) (wd_3 hw) (la_BaseUnit hw) (by decide) HJJ3 at_74 (pc' := 77) rfl (kc' := 1) (ks' := 3) rfl rfl (by decide) (by decide) ?_
        intro T27 a27 W27 H27
        refine g_dup W27 at_77 (pc' := 78) rfl rfl ?_
        refine g_ldcStr W27 (wd_4 hw) (own_atoms hw) H27 (n := 4) (by decide) (by decide) at_78 (pc' := 80) rfl (kc' := 3) (ks' := 11) rfl rfl (by decide) (by decide) ?_
        intro s28 T28 sa F W28 H28 hF
        replace H28 : Hp Z n0 T28.heap ((a27, ObC Z "com/example/tallymark/tallymark/text/BaseUnit" [("com/example/tallymark/tallymark/text/BaseUnit", "name", "Ljava/lang/String;", .null), ("com/example/tallymark/tallymark/text/BaseUnit", "multiplier", "D", .double 0), ("com/example/tallymark/tallymark/text/BaseUnit", "divisor", "D", .double 0)]) :: F) := H28
        refine g_lload W28 at_80 (pc' := 82) rfl rfl ?_
        refine g_l2d W28 at_82 (pc' := 83) rfl rfl ?_
        refine g_lload W28 at_83 (pc' := 85) rfl rfl ?_
        refine g_l2d W28 at_85 (pc' := 86) rfl rfl ?_
        refine g_callI W28 (argsL := [.ref sa, .double (FP.l2d mm), .double (FP.l2d dd)]) (st := [.ref a27]) rfl (wd_12 hw) (wd_13 hw) (wd_3 hw) (wd_14 hw) (by decide) (a := a27) (c_init l Z a0 hw n0 a27 sa (FP.l2d mm) (FP.l2d dd) _ _ H28) pd_1 rfl rfl rfl at_86 (pc' := 89) rfl (by decide) (Wn := 1) (Nat.le_of_eq rfl) (by decide) (kc' := 3) (ks' := 11) rfl rfl (by decide) (by decide) ?_
        intro T29 v29 W29 hp29
        obtain ⟨rfl, H29⟩ := hp29
        show Goes p e below _ (T29.setTop (mkF m 89 #[.val (.int p0), .val (.int p1), .val (.int p2), .val (.int p3), .val (.long mm), .second, .val (.int (1 : Int32)), .val (.long dd), .second, .val (.long (p0.toInt64 * mm)), .second, .unset, .unset, .unset, .unset, .unset, .unset, .unset, .unset, .unset, .unset, .unset] [.ref a27]))
        refine g_astore W29 at_89 (pc' := 91) rfl rfl (ls' := #[.val (.int p0), .val (.int p1), .val (.int p2), .val (.int p3), .val (.long mm), .second, .val (.int (1 : Int32)), .val (.long dd), .second, .val (.long (p0.toInt64 * mm)), .second, .val (.ref a27), .unset, .unset, .unset, .unset, .unset, .unset, .unset, .unset, .unset, .unset]) rfl ?_
        refine g_aload W29 at_91 (pc' := 93) rfl rfl rfl ?_
        refine g_iloadN W29 at_93 (pc' := 94) rfl rfl ?_
        refine g_i2d W29 at_94 (pc' := 95) rfl rfl ?_
        refine g_callV W29 (argsL := [.double (FP.i2d p0)]) (st := []) (wd_29 hw) (wd_30 hw) (wd_32 hw) (wd_31 hw) (wd_3 hw) (wd_33 hw) (by decide) (a := a27) H29 (i := 0) rfl (c_scale l Z a0 hw n0 a27 sa (FP.l2d mm) (FP.l2d dd) (FP.i2d p0) (own_prod p0 hm).nn (own_div_fin hm h0 hd) _ _ H29) pd_2 rfl rfl rfl at_95 (pc' := 98) rfl (by decide) (Wn := 0) (Nat.le_of_eq rfl) (by decide) (kc' := 3) (ks' := 11) rfl rfl (by decide) (by decide) ?_
        intro T30 v30 W30 hp30
        obtain ⟨rfl, H30⟩ := hp30
        show Goes p e below _ (T30.setTop (mkF m 98 #[.val (.int p0), .val (.int p1), .val (.int p2), .val (.int p3), .val (.long mm), .second, .val (.int (1 : Int32)), .val (.long dd), .second, .val (.long (p0.toInt64 * mm)), .second, .val (.ref a27), .unset, .unset, .unset, .unset, .unset, .unset, .unset, .unset, .unset, .unset] [.double (FP.ddiv (FP.dmul (FP.i2d p0) (FP.l2d mm)) (FP.l2d dd))]))
        refine g_dstore W30 at_98 (pc' := 100) rfl (ls' := #[.val (.int p0), .val (.int p1), .val (.int p2), .val (.int p3), .val (.long mm), .second, .val (.int (1 : Int32)), .val (.long dd), .second, .val (.long (p0.toInt64 * mm)), .second, .val (.ref a27), .val (.double (FP.ddiv (FP.dmul (FP.i2d p0) (FP.l2d mm)) (FP.l2d dd))), .second, .unset, .unset, .unset, .unset, .unset, .unset, .unset, .unset]) rfl ?_
        refine g_lload W30 at_100 (pc' := 102) rfl rfl ?_
        refine g_lload W30 at_102 (pc' := 104) rfl rfl ?_
        refine g_lrem W30 at_104 (pc' := 105) rfl (fun z => h0 (by rw [z]; decide)) rfl ?_
        refine g_lconst W30 at_105 (pc' := 106) rfl (v := (0 : Int64)) (by decide) ?_
        refine g_lcmp W30 at_106 (pc' := 107) rfl rfl ?_
        refine g_if W30 at_107 (pcy := 128) (by decide) (pc' := 110) rfl (fun (c31 : ¬ (XT.cmpL ((p0.toInt64 * mm) - (p0.toInt64 * mm) / dd * dd) (0 : Int64)) = (0 : Int32)) => ?_) (fun (c31 : ¬ ¬ (XT.cmpL ((p0.toInt64 * mm) - (p0.toInt64 * mm) / dd * dd) (0 : Int64)) = (0 : Int32)) => ?_)
        · replace c31 := fun q => c31 (cmpL_eq0.mpr q)
          obtain ⟨t, ht, hdt⟩ := hp
          refine g_iload W30 at_128 (pc' := 130) rfl rfl ?_
          refine g_if W30 at_130 (pcy := 152) (by decide) (pc' := 133) rfl (fun (h : (1 : Int32) = (0 : Int32)) => absurd h (by decide)) (fun _ => ?_)
          refine g_dload W30 at_133 (pc' := 135) rfl rfl ?_
          refine g_lload W30 at_135 (pc' := 137) rfl rfl ?_
          refine g_l2d W30 at_137 (pc' := 138) rfl rfl ?_
          refine g_dmul W30 at_138 (pc' := 139) rfl rfl (own_pow hm ht hdt).1 ?_
          refine g_lload W30 at_139 (pc' := 141) rfl rfl ?_
          refine g_l2d W30 at_141 (pc' := 142) rfl rfl ?_
          refine g_dcmp W30 at_142 (pc' := 143) rfl rfl ?_
          rw [show (cmpValue (FP.dcmp (FP.dmul (FP.ddiv (FP.dmul (FP.i2d p0) (FP.l2d mm)) (FP.l2d dd)) (FP.l2d dd)) (FP.l2d (p0.toInt64 * mm))) .l) = (0 : Int32) from (own_pow hm ht hdt).2]
          refine g_if W30 at_143 (pcy := 150) (by decide) (pc' := 146) rfl (fun (h : ¬ (0 : Int32) = (0 : Int32)) => absurd h (by decide)) (fun _ => ?_)
          refine g_iconst W30 at_146 (pc' := 147) rfl (v := (1 : Int32)) (by decide) ?_
          refine g_goto W30 at_147 (pc' := 151) (by decide) ?_
          exact g_zreturn W30 (by decide) at_151 ⟨rfl, hF _ [(a27, ObC Z "com/example/tallymark/tallymark/text/BaseUnit" [("com/example/tallymark/tallymark/text/BaseUnit", "name", "Ljava/lang/String;", .ref sa), ("com/example/tallymark/tallymark/text/BaseUnit", "multiplier", "D", .double (FP.l2d mm)), ("com/example/tallymark/tallymark/text/BaseUnit", "divisor", "D", .double (FP.l2d dd))])] H30 (fun x hx => hx)⟩ (by decide) (by decide)
        · replace c31 := Classical.not_not.mp c31
          replace c31 := cmpL_eq0.mp c31
          refine g_dload W30 at_110 (pc' := 112) rfl rfl ?_
          refine g_lload W30 at_112 (pc' := 114) rfl rfl ?_
          refine g_lload W30 at_114 (pc' := 116) rfl rfl ?_
          refine g_ldiv W30 at_116 (pc' := 117) rfl (fun z => h0 (by rw [z]; decide)) rfl ?_
          refine g_l2d W30 at_117 (pc' := 118) rfl rfl ?_
          refine g_dcmp W30 at_118 (pc' := 119) rfl rfl ?_
          rw [show (cmpValue (FP.dcmp (FP.ddiv (FP.dmul (FP.i2d p0) (FP.l2d mm)) (FP.l2d dd)) (FP.l2d ((p0.toInt64 * mm) / dd))) .l) = (0 : Int32) from own_exact hm h0 hd c31]
          refine g_if W30 at_119 (pcy := 126) (by decide) (pc' := 122) rfl (fun (h : ¬ (0 : Int32) = (0 : Int32)) => absurd h (by decide)) (fun _ => ?_)
          refine g_iconst W30 at_122 (pc' := 123) rfl (v := (1 : Int32)) (by decide) ?_
          refine g_goto W30 at_123 (pc' := 127) (by decide) ?_
          exact g_zreturn W30 (by decide) at_127 ⟨rfl, hF _ [(a27, ObC Z "com/example/tallymark/tallymark/text/BaseUnit" [("com/example/tallymark/tallymark/text/BaseUnit", "name", "Ljava/lang/String;", .ref sa), ("com/example/tallymark/tallymark/text/BaseUnit", "multiplier", "D", .double (FP.l2d mm)), ("com/example/tallymark/tallymark/text/BaseUnit", "divisor", "D", .double (FP.l2d dd))])] H30 (fun x hx => hx)⟩ (by decide) (by decide)
      obtain ⟨t, ht, hv⟩ := own_shl p2
      have hp2 : 0 < 2 ^ t := Nat.two_pow_pos t
      have hle : 2 ^ t ≤ 2 ^ 31 := Nat.pow_le_pow_right (by decide) ht
      refine g_iloadN WJJ1 at_56 (pc' := 57) rfl rfl ?_
      refine g_iconst WJJ1 at_57 (pc' := 58) rfl (v := (2 : Int32)) (by decide) ?_
      refine g_iand WJJ1 at_58 (pc' := 59) rfl rfl ?_
      refine g_if WJJ1 at_59 (pcy := 67) (by decide) (pc' := 62) rfl (fun (c32 : (p3 &&& (2 : Int32)) = (0 : Int32)) => ?_) (fun (c32 : ¬ (p3 &&& (2 : Int32)) = (0 : Int32)) => ?_)
      · exact J3 _ _ (by rw [hv]; omega) (by rw [hv]; omega) ⟨t, ht, by rw [hv]; rfl⟩ WJJ1 HJJ1
      · refine g_lload WJJ1 at_62 (pc' := 64) rfl rfl ?_
        refine g_lneg WJJ1 at_64 (pc' := 65) rfl rfl ?_
        refine g_lstore WJJ1 at_65 (pc' := 67) rfl (ls' := #[.val (.int p0), .val (.int p1), .val (.int p2), .val (.int p3), .val (.long mm), .second, .val (.int (1 : Int32)), .val (.long (-((1 : Int64) <<< ((p2 &&& (31 : Int32)).toInt64 &&& 63)))), .second, .unset, .unset, .unset, .unset, .unset, .unset, .unset, .unset, .unset, .unset, .unset, .unset, .unset]) rfl ?_
        exact J3 _ _ (by rw [own_neg (by rw [hv]; omega), hv]; omega) (by rw [own_neg (by rw [hv]; omega), hv]; omega) ⟨t, ht, by rw [own_neg (by rw [hv]; omega), hv]; omega⟩ WJJ1 HJJ1
  refine g_if W0 at_10 (pcy := 18) (by decide) (pc' := 13) rfl (fun (c33 : (p3 &&& (1 : Int32)) = (0 : Int32)) => ?_) (fun (c33 : ¬ (p3 &&& (1 : Int32)) = (0 : Int32)) => ?_)
  · exact J1 _ _ (own_mask p1) W0 H0
  · refine g_lload W0 at_13 (pc' := 15) rfl rfl ?_
    refine g_lneg W0 at_15 (pc' := 16) rfl rfl ?_
    refine g_lstore W0 at_16 (pc' := 18) rfl (ls' := #[.val (.int p0), .val (.int p1), .val (.int p2), .val (.int p3), .val (.long (-(p1 &&& (1048575 : Int32)).toInt64)), .second, .unset, .unset, .unset, .unset, .unset, .unset, .unset, .unset, .unset, .unset, .unset, .unset, .unset, .unset, .unset, .unset]) rfl ?_
    exact J1 _ _ (by rw [own_neg (by have := own_mask p1; omega)]; have := own_mask p1; omega) W0 H0
set_option maxRecDepth 65536 in
set_option maxHeartbeats 40000000 in
theorem comes_1 {Post : Tables → Env → Array Value → State → Outcome → State → Prop} (hpost : ∀ tb e args s v u, (limb_1_1.after args s (.returned v) u = true ∧ limb_1_2.after args s (.returned v) u = true ∧ True) → ReturnedEndW s (.returned v) u (Jvm.fieldLocs frame_1_writes args s ++ Jvm.arrayLocs frame_1_arrays args s ++ Jvm.staticLocs frame_1_statics s) 16 1152 → Post tb e args s (.returned v) u) :
    ArmFor flags0 classFile x code maxLocals ret World_1 tables_1 room_1 Calls_1 rest_1 Pre_1 Post := by
  intro l hfl _ _ p e ha hc hk s m args below hf hA hF happ hP
  obtain ⟨hcalls, hrest, hpre⟩ := hP
  obtain ⟨-, -, -, hnamed, -, -, -, hat⟩ := (Spec.applies_iff hf).mp happ
  obtain ⟨hg, hn⟩ := and_e (Cond.before_iff.mp (show (Jvm.Cond.and given_1 narrow_1).before args s = true from hpre))
  obtain ⟨hcount, hg0⟩ := and_e hg
  obtain ⟨ha0, hg1⟩ := and_e hg0
  obtain ⟨ha1, hg2⟩ := and_e hg1
  obtain ⟨ha2, hg3⟩ := and_e hg2
  obtain ⟨w0, w1, w2, w3, rfl⟩ : ∃ w0 w1 w2 w3 : Value, args = #[w0, w1, w2, w3] := by
    have hs : args.size = 4 := by simpa [Cond.value, given_1] using hcount
    obtain ⟨L⟩ := args
    match L, hs with
    | [w0, w1, w2, w3], _ => exact ⟨w0, w1, w2, w3, rfl⟩
  have hw := fun d (hd : d ∈ tables_1) => atoms_spec (ws := Jvm.Cond.code x code maxLocals ret :: tables_1) hat d (List.mem_cons_of_mem _ hd)
  obtain ⟨p0, e0⟩ := is_v ha0
  obtain rfl : w0 = (.int p0) := Option.some.inj e0
  obtain ⟨p1, e1⟩ := is_v ha1
  obtain rfl : w1 = (.int p1) := Option.some.inj e1
  obtain ⟨p2, e2⟩ := is_v ha2
  obtain rfl : w2 = (.int p2) := Option.some.inj e2
  obtain ⟨p3, e3⟩ := is_v hg3
  obtain rfl : w3 = (.int p3) := Option.some.inj e3
  obtain ⟨n, o, h1, h2, h3, _, L, rfl, ⟨N, rfl⟩, hq⟩ := law_con l s _ hw s.heap.size p0 p1 p2 p3 s.heap (Hp.nil Bs.start) p e ha hc hk s m _ below hf ((Spec.applies_iff_loose hf).mp happ).1 ⟨rfl, State.Warmed39.refl s, rfl⟩ trivial
  refine ⟨n, _, h1, h2, h3, hpost _ _ _ _ _ _ ⟨Cond.after_iff.mpr rfl, Cond.after_iff.mpr (eq_i res_at (Term.int_eval (1)) rfl), trivial⟩ ⟨hq.1, hq.2.1, hq.2.2.1, (hq.2.2.2.sift fun y hy => Or.inr (N y hy)).mono (by decide) (by decide)⟩⟩
theorem main_1_1 : Claimed_1_1 := comes_1 fun _ _ _ _ _ _ h hF => ⟨h.1, hF⟩
theorem main_1_2 : Claimed_1_2 := comes_1 fun _ _ _ _ _ _ h hF => ⟨h.2.1, hF⟩
end Jvm.Pilot.@@N@@
namespace Jvm.Pilot.@@N@@
open Jvm Jvm.ClassFile Sem Op Lib Jvm.Free Jvm.Stand Jvm.Pilot.@@N@@.Jvm.D
/-! MADE BY PROGRAM (witnessworld.py) out of the Statement's table words and the real class files: 16 classes; the members and pool entries that the words name. The judged class is class 1, her method 1. -/
namespace start1
open Jvm.ClassFile
def u (s : String) : CpInfo := .utf8 (stringToUtf16 s)
/-- a pool by its gaps: so many unusable entries, then the entry; so many at the end -/
def gap : Nat → List CpInfo → List CpInfo
  | 0, r => r
  | n + 1, r => .unusable :: gap n r
def poolList (es : List (Nat × CpInfo)) (last : Nat) : List CpInfo := es.foldr (fun e r => gap e.1 (e.2 :: r)) (gap last [])
def pool (es : List (Nat × CpInfo)) (last : Nat) : Array CpInfo := ⟨poolList es last⟩
def fileOf (pool : Array CpInfo) (this : Nat) (attrs : Array Attribute := #[]) (ms : Array MethodInfo := #[]) (fl : Nat := 33) (sup : Nat := 0) (ifs : Array Nat := #[]) (fds : Array FieldInfo := #[]) : ClassFile where
  minorVersion := 0
  majorVersion := 65
  constantPool := pool
  accessFlags := fl
  thisClass := this
  superClass := sup
  interfaces := ifs
  fields := fds
  methods := ms
  attributes := attrs
def plain (name : String) (sup : Option ClassId) : Class where
  name := name
  kind := .ordinary
  loader := none
  accessFlags := 33
  super := sup
  interfaces := #[]
  cf := none
  fields := #[]
  methods := #[]
  instanceTypes := #[]
  staticTypes := #[]
  resolved := #[]
  callSites := []
  init := .initialized
  statics := none
  mirror := none

def pool0 : Array CpInfo := pool [(5, u "<init>"), (0, u "()V"), (1, .class_ 10), (1, u "java/lang/Object")] 113

def k0c0 : Code := { maxStack := 0, maxLocals := 1, code := object_method_1_code, exceptionTable := #[], attributes := #[] }
def k0m0 : Method := { name := "<init>", desc := "()V", sig := { parameters := [], returnType := none }, accessFlags := 1, code := some k0c0 }
/-- java/lang/Object -/
def k0 : Class := { plain "java/lang/Object" none with
  accessFlags := 33
  interfaces := #[]
  cf := some (fileOf pool0 8 #[] #[{ accessFlags := 1, nameIndex := 5, descriptorIndex := 6, attributes := #[] }] 33 0 #[] #[])
  fields := #[]
  methods := #[k0m0]
  instanceTypes := #[]
  staticTypes := #[]
  resolved := Array.replicate 124 none
  statics := none }

def pool1 : Array CpInfo := pool [(2, .class_ 4), (1, u "java/lang/Object"), (0, u "<init>"), (0, u "()V"), (0, .integer 1048575), (0, .class_ 9), (0, u "com/example/tallymark/tallymark/text/BaseUnit"), (0, .string 11), (0, u "u"), (0, .methodref 8 13), (0, .nameAndType 5 14), (0, u "(Ljava/lang/String;DD)V"), (0, .methodref 8 16), (0, .nameAndType 17 18), (0, u "scale"), (0, u "(D)D"), (0, .long 18446744073709551615), (1, .methodref 22 23), (0, .class_ 24), (0, .nameAndType 25 26), (0, u "java/lang/Math"), (0, u "min"), (0, u "(JJ)J"), (0, .methodref 22 28), (0, .nameAndType 29 26), (0, u "max"), (0, .class_ 31), (0, u "com/example/tallymark/tallymark/text/BaseUnitScalePinLaw"), (2, u "law"), (0, u "(IIII)Z")] 3

def k1m0 : Method := { name := "<init>", desc := "()V", sig := { parameters := [], returnType := none }, accessFlags := 1, code := none }
def k1c1 : Code := { maxStack := 7, maxLocals := 22, code := code, exceptionTable := #[], attributes := #[] }
def k1m1 : Method := { name := "law", desc := "(IIII)Z", sig := { parameters := [.int, .int, .int, .int], returnType := some .boolean }, accessFlags := 9, code := some k1c1 }
/-- com/example/tallymark/tallymark/text/BaseUnitScalePinLaw -/
def k1 : Class := { plain "com/example/tallymark/tallymark/text/BaseUnitScalePinLaw" (some 0) with
  accessFlags := 49
  interfaces := #[]
  cf := some (fileOf pool1 30 #[] #[{ accessFlags := 1, nameIndex := 5, descriptorIndex := 6, attributes := #[] }, { accessFlags := 9, nameIndex := 34, descriptorIndex := 35, attributes := #[] }] 49 2 #[] #[])
  fields := #[]
  methods := #[k1m0, k1m1]
  instanceTypes := #[]
  staticTypes := #[]
  resolved := Array.replicate 39 none
  statics := none }

def pool2 : Array CpInfo := pool [(1, .methodref 2 3), (0, .class_ 4), (0, .nameAndType 5 6), (0, u "java/lang/Object"), (0, u "<init>"), (0, u "()V"), (0, .class_ 8), (0, u "java/lang/Record")] 13

def k2c0 : Code := { maxStack := 1, maxLocals := 1, code := jdk_30_method_1_code, exceptionTable := #[], attributes := #[] }
def k2m0 : Method := { name := "<init>", desc := "()V", sig := { parameters := [], returnType := none }, accessFlags := 4, code := some k2c0 }
/-- java/lang/Record -/
def k2 : Class := { plain "java/lang/Record" (some 0) with
  accessFlags := 1057
  interfaces := #[]
  cf := some (fileOf pool2 7 #[] #[{ accessFlags := 4, nameIndex := 5, descriptorIndex := 6, attributes := #[] }] 1057 2 #[] #[])
  fields := #[]
  methods := #[k2m0]
  instanceTypes := #[]
  staticTypes := #[]
  resolved := Array.replicate 22 none
  statics := none }

def pool3 : Array CpInfo := pool [(1, .class_ 2), (0, u "com/example/tallymark/tallymark/text/BaseUnit"), (0, .methodref 4 5), (0, .class_ 6), (0, .nameAndType 7 8), (0, u "java/lang/Record"), (0, u "<init>"), (0, u "()V"), (0, .fieldref 1 10), (0, .nameAndType 11 12), (0, u "name"), (0, u "Ljava/lang/String;"), (0, .fieldref 1 14), (0, .nameAndType 15 16), (0, u "multiplier"), (0, u "D"), (0, .fieldref 1 18), (0, .nameAndType 19 16), (0, u "divisor"), (16, u "NONE"), (0, u "Lcom/example/tallymark/tallymark/text/BaseUnit;"), (2, u "KNOWN"), (0, u "Ljava/util/Map;"), (8, u "(Ljava/lang/String;DD)V"), (91, u "KIBI"), (1, u "MEBI"), (0, u "GIBI"), (0, u "BITS_PER_BYTE"), (8, u "scale"), (0, u "(D)D")] 27

def k3c0 : Code := { maxStack := 3, maxLocals := 6, code := prog_44_method_1_code, exceptionTable := #[], attributes := #[] }
def k3m0 : Method := { name := "<init>", desc := "(Ljava/lang/String;DD)V", sig := { parameters := [(.object "java/lang/String"), .double, .double], returnType := none }, accessFlags := 0, code := some k3c0 }
def k3c1 : Code := { maxStack := 4, maxLocals := 3, code := prog_44_method_3_code, exceptionTable := #[], attributes := #[] }
def k3m1 : Method := { name := "scale", desc := "(D)D", sig := { parameters := [.double], returnType := some .double }, accessFlags := 0, code := some k3c1 }
/-- com/example/tallymark/tallymark/text/BaseUnit -/
def k3 : Class := { plain "com/example/tallymark/tallymark/text/BaseUnit" (some 2) with
  accessFlags := 48
  interfaces := #[]
  cf := some (fileOf pool3 1 #[] #[{ accessFlags := 0, nameIndex := 7, descriptorIndex := 50, attributes := #[] }, { accessFlags := 0, nameIndex := 155, descriptorIndex := 156, attributes := #[] }] 48 4 #[] #[{ accessFlags := 18, nameIndex := 11, descriptorIndex := 12, attributes := #[] }, { accessFlags := 18, nameIndex := 15, descriptorIndex := 16, attributes := #[] }, { accessFlags := 18, nameIndex := 19, descriptorIndex := 16, attributes := #[] }, { accessFlags := 24, nameIndex := 36, descriptorIndex := 37, attributes := #[] }, { accessFlags := 26, nameIndex := 142, descriptorIndex := 16, attributes := #[] }, { accessFlags := 26, nameIndex := 144, descriptorIndex := 16, attributes := #[] }, { accessFlags := 26, nameIndex := 145, descriptorIndex := 16, attributes := #[] }, { accessFlags := 26, nameIndex := 146, descriptorIndex := 16, attributes := #[] }, { accessFlags := 26, nameIndex := 40, descriptorIndex := 41, attributes := #[] }])
  fields := #[{ name := "name", type := (.object "java/lang/String"), accessFlags := 18, slot := 0, constantValue := 0 }, { name := "multiplier", type := .double, accessFlags := 18, slot := 1, constantValue := 0 }, { name := "divisor", type := .double, accessFlags := 18, slot := 2, constantValue := 0 }, { name := "NONE", type := (.object "com/example/tallymark/tallymark/text/BaseUnit"), accessFlags := 24, slot := 0, constantValue := 0 }, { name := "KIBI", type := .double, accessFlags := 26, slot := 1, constantValue := 0 }, { name := "MEBI", type := .double, accessFlags := 26, slot := 2, constantValue := 0 }, { name := "GIBI", type := .double, accessFlags := 26, slot := 3, constantValue := 0 }, { name := "BITS_PER_BYTE", type := .double, accessFlags := 26, slot := 4, constantValue := 0 }, { name := "KNOWN", type := (.object "java/util/Map"), accessFlags := 26, slot := 5, constantValue := 0 }]
  methods := #[k3m0, k3m1]
  instanceTypes := #[(.object "java/lang/String"), .double, .double]
  staticTypes := #[(.object "com/example/tallymark/tallymark/text/BaseUnit"), .double, .double, .double, .double, (.object "java/util/Map")]
  resolved := Array.replicate 184 none
  statics := none }

def pool4 : Array CpInfo := pool [(1, .class_ 2), (0, u "java/io/Serializable"), (0, .class_ 4), (0, u "java/lang/Object")] 2

/-- java/io/Serializable -/
def k4 : Class := { plain "java/io/Serializable" (some 0) with
  accessFlags := 1537
  interfaces := #[]
  cf := some (fileOf pool4 1 #[] #[] 1537 3 #[] #[])
  fields := #[]
  methods := #[]
  instanceTypes := #[]
  staticTypes := #[]
  resolved := Array.replicate 7 none
  statics := none }

def pool5 : Array CpInfo := pool [(1, .class_ 2), (0, u "java/lang/Comparable"), (0, .class_ 4), (0, u "java/lang/Object")] 7

/-- java/lang/Comparable -/
def k5 : Class := { plain "java/lang/Comparable" (some 0) with
  accessFlags := 1537
  interfaces := #[]
  cf := some (fileOf pool5 1 #[] #[] 1537 3 #[] #[])
  fields := #[]
  methods := #[]
  instanceTypes := #[]
  staticTypes := #[]
  resolved := Array.replicate 12 none
  statics := none }

def pool6 : Array CpInfo := pool [(2, .class_ 4), (1, u "java/lang/CharSequence"), (42, .class_ 48), (0, u "java/lang/CharSequence$1CodePointIterator"), (10, .class_ 60), (0, u "java/lang/CharSequence$1CharIterator"), (5, .class_ 67), (0, u "java/lang/Object")] 63

/-- java/lang/CharSequence -/
def k6 : Class := { plain "java/lang/CharSequence" (some 0) with
  accessFlags := 1537
  interfaces := #[]
  cf := some (fileOf pool6 2 #[.nestMembers #[47, 59]] #[] 1537 66 #[] #[])
  fields := #[]
  methods := #[]
  instanceTypes := #[]
  staticTypes := #[]
  resolved := Array.replicate 131 none
  statics := none }

def pool7 : Array CpInfo := pool [(1, .class_ 2), (0, u "java/lang/constant/Constable"), (0, .class_ 4), (0, u "java/lang/Object")] 6

/-- java/lang/constant/Constable -/
def k7 : Class := { plain "java/lang/constant/Constable" (some 0) with
  accessFlags := 1537
  interfaces := #[]
  cf := some (fileOf pool7 1 #[] #[] 1537 3 #[] #[])
  fields := #[]
  methods := #[]
  instanceTypes := #[]
  staticTypes := #[]
  resolved := Array.replicate 11 none
  statics := none }

def pool8 : Array CpInfo := pool [(1, .class_ 2), (0, u "java/lang/constant/ConstantDesc"), (0, .class_ 4), (0, u "java/lang/Object")] 32

/-- java/lang/constant/ConstantDesc -/
def k8 : Class := { plain "java/lang/constant/ConstantDesc" (some 0) with
  accessFlags := 1537
  interfaces := #[]
  cf := some (fileOf pool8 1 #[] #[] 1537 3 #[] #[])
  fields := #[]
  methods := #[]
  instanceTypes := #[]
  staticTypes := #[]
  resolved := Array.replicate 37 none
  statics := none }

def pool9 : Array CpInfo := pool [(2, .class_ 4), (1, u "java/lang/Object"), (0, u "<init>"), (0, u "()V"), (3, .class_ 12), (1, u "java/lang/String"), (0, u "value"), (0, u "[B"), (2, u "coder"), (0, u "B"), (2, u "hash"), (0, u "I"), (2, u "hashIsZero"), (0, u "Z"), (13, u "COMPACT_STRINGS"), (534, .class_ 576), (0, u "java/lang/CharSequence"), (22, u "CASE_INSENSITIVE_ORDER"), (0, u "Ljava/util/Comparator;"), (500, u "serialPersistentFields"), (0, u "[Ljava/io/ObjectStreamField;"), (0, .class_ 1104), (0, u "java/lang/String$CaseInsensitiveComparator"), (1, .class_ 1107), (0, u "java/io/Serializable"), (0, .class_ 1109), (0, u "java/lang/Comparable"), (0, .class_ 1111), (0, u "java/lang/constant/Constable"), (0, .class_ 1113), (0, u "java/lang/constant/ConstantDesc"), (2, u "serialVersionUID"), (0, u "J"), (3, u "REPL"), (0, u "C"), (2, u "LATIN1"), (1, u "UTF16")] 323

def k9m0 : Method := { name := "<init>", desc := "()V", sig := { parameters := [], returnType := none }, accessFlags := 1, code := none }
/-- java/lang/String -/
def k9 : Class := { plain "java/lang/String" (some 0) with
  accessFlags := 49
  interfaces := #[4, 5, 6, 7, 8]
  cf := some (fileOf pool9 10 #[.nestMembers #[1103]] #[{ accessFlags := 1, nameIndex := 5, descriptorIndex := 6, attributes := #[] }] 49 2 #[1106, 1108, 575, 1110, 1112] #[{ accessFlags := 18, nameIndex := 13, descriptorIndex := 14, attributes := #[] }, { accessFlags := 18, nameIndex := 17, descriptorIndex := 18, attributes := #[] }, { accessFlags := 2, nameIndex := 21, descriptorIndex := 22, attributes := #[] }, { accessFlags := 2, nameIndex := 25, descriptorIndex := 26, attributes := #[] }, { accessFlags := 26, nameIndex := 1116, descriptorIndex := 1117, attributes := #[] }, { accessFlags := 24, nameIndex := 40, descriptorIndex := 26, attributes := #[] }, { accessFlags := 26, nameIndex := 1101, descriptorIndex := 1102, attributes := #[] }, { accessFlags := 26, nameIndex := 1121, descriptorIndex := 1122, attributes := #[] }, { accessFlags := 25, nameIndex := 599, descriptorIndex := 600, attributes := #[] }, { accessFlags := 24, nameIndex := 1125, descriptorIndex := 18, attributes := #[] }, { accessFlags := 24, nameIndex := 1127, descriptorIndex := 18, attributes := #[] }])
  fields := #[{ name := "value", type := (.array .byte), accessFlags := 18, slot := 0, constantValue := 0 }, { name := "coder", type := .byte, accessFlags := 18, slot := 1, constantValue := 0 }, { name := "hash", type := .int, accessFlags := 2, slot := 2, constantValue := 0 }, { name := "hashIsZero", type := .boolean, accessFlags := 2, slot := 3, constantValue := 0 }, { name := "serialVersionUID", type := .long, accessFlags := 26, slot := 0, constantValue := 0 }, { name := "COMPACT_STRINGS", type := .boolean, accessFlags := 24, slot := 1, constantValue := 0 }, { name := "serialPersistentFields", type := (.array (.object "java/io/ObjectStreamField")), accessFlags := 26, slot := 2, constantValue := 0 }, { name := "REPL", type := .char, accessFlags := 26, slot := 3, constantValue := 0 }, { name := "CASE_INSENSITIVE_ORDER", type := (.object "java/util/Comparator"), accessFlags := 25, slot := 4, constantValue := 0 }, { name := "LATIN1", type := .byte, accessFlags := 24, slot := 5, constantValue := 0 }, { name := "UTF16", type := .byte, accessFlags := 24, slot := 6, constantValue := 0 }]
  methods := #[k9m0]
  instanceTypes := #[(.array .byte), .byte, .int, .boolean]
  staticTypes := #[.long, .boolean, (.array (.object "java/io/ObjectStreamField")), .char, (.object "java/util/Comparator"), .byte, .byte]
  resolved := Array.replicate 1451 none
  statics := none }

def pool10 : Array CpInfo := pool [(1, .class_ 2), (0, u "java/lang/Math"), (1, .class_ 6), (1, u "java/lang/Object"), (0, u "<init>"), (0, u "()V"), (89, .class_ 100), (1, u "java/lang/Math$RandomNumberGeneratorHolder"), (20, u "(JJ)J"), (50, u "negativeZeroFloatBits"), (0, u "J"), (2, u "negativeZeroDoubleBits"), (21, u "max"), (2, u "min"), (43, u "$assertionsDisabled"), (0, u "Z"), (91, u "twoToTheDoubleScaleDown"), (0, u "D"), (4, u "twoToTheDoubleScaleUp"), (9, u "E"), (3, u "PI"), (2, u "TAU"), (2, u "DEGREES_TO_RADIANS"), (0, u "RADIANS_TO_DEGREES")] 94

def k10m0 : Method := { name := "<init>", desc := "()V", sig := { parameters := [], returnType := none }, accessFlags := 2, code := none }
def k10c1 : Code := { maxStack := 4, maxLocals := 4, code := jdk_29_method_66_code, exceptionTable := #[], attributes := #[] }
def k10m1 : Method := { name := "max", desc := "(JJ)J", sig := { parameters := [.long, .long], returnType := some .long }, accessFlags := 9, code := some k10c1 }
def k10c2 : Code := { maxStack := 4, maxLocals := 4, code := jdk_29_method_70_code, exceptionTable := #[], attributes := #[] }
def k10m2 : Method := { name := "min", desc := "(JJ)J", sig := { parameters := [.long, .long], returnType := some .long }, accessFlags := 9, code := some k10c2 }
/-- java/lang/Math -/
def k10 : Class := { plain "java/lang/Math" (some 0) with
  accessFlags := 49
  interfaces := #[]
  cf := some (fileOf pool10 1 #[.nestMembers #[98]] #[{ accessFlags := 2, nameIndex := 7, descriptorIndex := 8, attributes := #[] }, { accessFlags := 9, nameIndex := 198, descriptorIndex := 121, attributes := #[] }, { accessFlags := 9, nameIndex := 201, descriptorIndex := 121, attributes := #[] }] 49 4 #[] #[{ accessFlags := 25, nameIndex := 354, descriptorIndex := 339, attributes := #[] }, { accessFlags := 25, nameIndex := 358, descriptorIndex := 339, attributes := #[] }, { accessFlags := 25, nameIndex := 361, descriptorIndex := 339, attributes := #[] }, { accessFlags := 26, nameIndex := 364, descriptorIndex := 339, attributes := #[] }, { accessFlags := 26, nameIndex := 365, descriptorIndex := 339, attributes := #[] }, { accessFlags := 26, nameIndex := 172, descriptorIndex := 173, attributes := #[] }, { accessFlags := 26, nameIndex := 176, descriptorIndex := 173, attributes := #[] }, { accessFlags := 8, nameIndex := 344, descriptorIndex := 339, attributes := #[] }, { accessFlags := 8, nameIndex := 338, descriptorIndex := 339, attributes := #[] }, { accessFlags := 4120, nameIndex := 245, descriptorIndex := 246, attributes := #[] }])
  fields := #[{ name := "E", type := .double, accessFlags := 25, slot := 0, constantValue := 0 }, { name := "PI", type := .double, accessFlags := 25, slot := 1, constantValue := 0 }, { name := "TAU", type := .double, accessFlags := 25, slot := 2, constantValue := 0 }, { name := "DEGREES_TO_RADIANS", type := .double, accessFlags := 26, slot := 3, constantValue := 0 }, { name := "RADIANS_TO_DEGREES", type := .double, accessFlags := 26, slot := 4, constantValue := 0 }, { name := "negativeZeroFloatBits", type := .long, accessFlags := 26, slot := 5, constantValue := 0 }, { name := "negativeZeroDoubleBits", type := .long, accessFlags := 26, slot := 6, constantValue := 0 }, { name := "twoToTheDoubleScaleUp", type := .double, accessFlags := 8, slot := 7, constantValue := 0 }, { name := "twoToTheDoubleScaleDown", type := .double, accessFlags := 8, slot := 8, constantValue := 0 }, { name := "$assertionsDisabled", type := .boolean, accessFlags := 4120, slot := 9, constantValue := 0 }]
  methods := #[k10m0, k10m1, k10m2]
  instanceTypes := #[]
  staticTypes := #[.double, .double, .double, .double, .double, .long, .long, .double, .double, .boolean]
  resolved := Array.replicate 460 none
  statics := none }

def pool11 : Array CpInfo := pool [(1, u "java/lang/Cloneable"), (0, .class_ 1), (0, u "java/lang/Object"), (0, .class_ 3)] 3

/-- java/lang/Cloneable -/
def k11 : Class := { plain "java/lang/Cloneable" (some 0) with
  accessFlags := 1537
  interfaces := #[]
  cf := some (fileOf pool11 2 #[] #[] 1537 4 #[] #[])
  fields := #[]
  methods := #[]
  instanceTypes := #[]
  staticTypes := #[]
  resolved := Array.replicate 8 none
  statics := none }

/-- the primitive byte -/
def k12 : Class := { plain "byte" none with kind := .primitive 'B', accessFlags := 0x411 }
/-- [B -/
def k13 : Class := { plain "[B" (some 0) with kind := .array 12 .byte, interfaces := #[11, 4], accessFlags := 1041 }

/-- the primitive int -/
def k14 : Class := { plain "int" none with kind := .primitive 'I', accessFlags := 0x411 }
/-- [I -/
def k15 : Class := { plain "[I" (some 0) with kind := .array 14 .int, interfaces := #[11, 4], accessFlags := 1041 }

def heap : Heap := #[]
def classes : Array Class := #[k0, k1, k2, k3, k4, k5, k6, k7, k8, k9, k10, k11, k12, k13, k14, k15]
def interned : List (Array UInt16 × Addr) := []
def slotsUsed : Nat := 0
def theMethod : MethodId := ⟨1, 1⟩
def args0 : Array Value := #[.int 1, .int 2, .int 3, .int 0]
def aboutOver (below : List Frame) : State where
  vm := { classes := classes, interned := interned.toArray }
  heap := heap
  slotsUsed := slotsUsed
  threads := #[{ frames := .invoking theMethod args0 :: below }]
def below0 : List Frame := [.native { method := ⟨0, 0⟩, args := #[] }]
def about1 : State := aboutOver below0
def p0 : Program := .bare "" "" ""
def e0 : Env := launch0.env 0 0 0
theorem w_frames : about1.frames = Frame.invoking theMethod args0 :: below0 := rfl
set_option maxRecDepth 65536 in
theorem w_args : argsFit about1.vm theMethod args0 = true := by decide +kernel
set_option maxRecDepth 65536 in
theorem w_heap : heapFits about1 = true := by decide +kernel
set_option maxRecDepth 65536 in
theorem w_runnable : about1.curStatus? = some .runnable := by decide +kernel
set_option maxRecDepth 65536 in
theorem w_alone : about1.alone = true := by decide +kernel
set_option maxRecDepth 65536 in
theorem w_named : about1.methodNamed? x = some theMethod := by decide +kernel
set_option maxRecDepth 65536 in
theorem w_hears : about1.hears theMethod below0 = true := by decide +kernel
set_option maxRecDepth 65536 in
theorem w_ripe : about1.ripe theMethod args0 below0 = true := by decide +kernel
theorem w_running : about1.status = .running := rfl
set_option maxRecDepth 65536 in
theorem w_room : about1.hasRoom e0.platform room_1 = true :=
  launch0.hasRoom_least _ room_1 (by decide +kernel) (by decide +kernel) (by decide +kernel) (by decide +kernel) (by decide +kernel) (by decide +kernel)
theorem allAtoms_all (ts : List Jvm.Cond) (a : Array Jvm.Value) (st : Jvm.State) : (allAtoms ts).before a st = ts.all (fun c => c.before a st) := by
  induction ts with
  | nil => rfl
  | cons c t ih =>
    show (Jvm.Cond.and c (allAtoms t)).before a st = _
    rw [Jvm.Cond.before_and, ih, List.all_cons]
def words1 : List Jvm.Cond := Jvm.Cond.code x code maxLocals ret :: tables_1
/-- a 'code' word, met by the world's own term for the bytes: nothing is compared byte by byte -/
theorem code_word {y : MethodName} {bytes : ByteArray} {mx : Nat} {rt : Option FieldType} {a : Array Value} {s : State} {m : MethodId} {meth : Method} {c : Code} (h1 : s.methodNamed? y = some m) (h2 : s.vm.method? m = some meth) (h3 : meth.code = some c) (h4 : c.code = bytes)
    (h5 : (c.maxLocals == mx && c.exceptionTable.isEmpty && decide (c.maxStack ≤ mostOperands) && decide (meth.sig.returnType = rt) && !meth.locks && decide (parseMethodDescriptor y.desc = some meth.sig)) = true) : (Jvm.Cond.code y bytes mx rt).before a s = true := by
  simp only [Bool.and_eq_true, beq_iff_eq, Bool.not_eq_true', decide_eq_true_eq] at h5
  obtain ⟨⟨⟨⟨⟨g1, g2⟩, g3⟩, g4⟩, g5⟩, g6⟩ := h5
  simp [Cond.before, Cond.holds, Cond.value, h1, h2, h3, h4, g1, g2, g3, g4, g5, g6]
def isCode : Jvm.Cond → Bool
  | .code _ _ _ _ => true
  | _ => false
theorem all_split {L : List Jvm.Cond} {P : Jvm.Cond → Bool} (h1 : L.all (fun c => isCode c || P c) = true) (h2 : ∀ c ∈ L.filter isCode, P c = true) : L.all P = true := by
  refine List.all_eq_true.mpr fun c hc => ?_
  have h := List.all_eq_true.mp h1 c hc
  rcases Bool.eq_false_or_eq_true (isCode c) with hi | hi
  · exact h2 c (List.mem_filter.mpr ⟨hc, hi⟩)
  · simpa [hi] using h
set_option maxRecDepth 65536 in
theorem w_c0 : (Jvm.Cond.code x code maxLocals ret).before args0 about1 = true := code_word (m := ⟨1, 1⟩) (meth := k1m1) (c := k1c1) (by decide +kernel) rfl rfl rfl (by decide +kernel)
set_option maxRecDepth 65536 in
theorem w_c1 : (Jvm.Cond.code ({ cls := "com/example/tallymark/tallymark/text/BaseUnit", name := "<init>", desc := "(Ljava/lang/String;DD)V" } : Jvm.MethodName) prog_44_method_1_code (6 : Nat) (Option.none : Option Jvm.ClassFile.FieldType)).before args0 about1 = true := code_word (m := ⟨3, 0⟩) (meth := k3m0) (c := k3c0) (by decide +kernel) rfl rfl rfl (by decide +kernel)
set_option maxRecDepth 65536 in
theorem w_c2 : (Jvm.Cond.code ({ cls := "java/lang/Record", name := "<init>", desc := "()V" } : Jvm.MethodName) jdk_30_method_1_code (1 : Nat) (Option.none : Option Jvm.ClassFile.FieldType)).before args0 about1 = true := code_word (m := ⟨2, 0⟩) (meth := k2m0) (c := k2c0) (by decide +kernel) rfl rfl rfl (by decide +kernel)
set_option maxRecDepth 65536 in
theorem w_c3 : (Jvm.Cond.code ({ cls := "java/lang/Object", name := "<init>", desc := "()V" } : Jvm.MethodName) object_method_1_code (1 : Nat) (Option.none : Option Jvm.ClassFile.FieldType)).before args0 about1 = true := code_word (m := ⟨0, 0⟩) (meth := k0m0) (c := k0c0) (by decide +kernel) rfl rfl rfl (by decide +kernel)
set_option maxRecDepth 65536 in
theorem w_c4 : (Jvm.Cond.code ({ cls := "com/example/tallymark/tallymark/text/BaseUnit", name := "scale", desc := "(D)D" } : Jvm.MethodName) prog_44_method_3_code (3 : Nat) (Option.some Jvm.ClassFile.FieldType.double)).before args0 about1 = true := code_word (m := ⟨3, 1⟩) (meth := k3m1) (c := k3c1) (by decide +kernel) rfl rfl rfl (by decide +kernel)
set_option maxRecDepth 65536 in
theorem w_c5 : (Jvm.Cond.code ({ cls := "java/lang/Math", name := "min", desc := "(JJ)J" } : Jvm.MethodName) jdk_29_method_70_code (4 : Nat) (Option.some Jvm.ClassFile.FieldType.long)).before args0 about1 = true := code_word (m := ⟨10, 2⟩) (meth := k10m2) (c := k10c2) (by decide +kernel) rfl rfl rfl (by decide +kernel)
set_option maxRecDepth 65536 in
theorem w_c6 : (Jvm.Cond.code ({ cls := "java/lang/Math", name := "max", desc := "(JJ)J" } : Jvm.MethodName) jdk_29_method_66_code (4 : Nat) (Option.some Jvm.ClassFile.FieldType.long)).before args0 about1 = true := code_word (m := ⟨10, 1⟩) (meth := k10m1) (c := k10c1) (by decide +kernel) rfl rfl rfl (by decide +kernel)
def codes1 : List Jvm.Cond := [Jvm.Cond.code x code maxLocals ret, Jvm.Cond.code ({ cls := "com/example/tallymark/tallymark/text/BaseUnit", name := "<init>", desc := "(Ljava/lang/String;DD)V" } : Jvm.MethodName) prog_44_method_1_code (6 : Nat) (Option.none : Option Jvm.ClassFile.FieldType), Jvm.Cond.code ({ cls := "java/lang/Record", name := "<init>", desc := "()V" } : Jvm.MethodName) jdk_30_method_1_code (1 : Nat) (Option.none : Option Jvm.ClassFile.FieldType), Jvm.Cond.code ({ cls := "java/lang/Object", name := "<init>", desc := "()V" } : Jvm.MethodName) object_method_1_code (1 : Nat) (Option.none : Option Jvm.ClassFile.FieldType), Jvm.Cond.code ({ cls := "com/example/tallymark/tallymark/text/BaseUnit", name := "scale", desc := "(D)D" } : Jvm.MethodName) prog_44_method_3_code (3 : Nat) (Option.some Jvm.ClassFile.FieldType.double), Jvm.Cond.code ({ cls := "java/lang/Math", name := "min", desc := "(JJ)J" } : Jvm.MethodName) jdk_29_method_70_code (4 : Nat) (Option.some Jvm.ClassFile.FieldType.long), Jvm.Cond.code ({ cls := "java/lang/Math", name := "max", desc := "(JJ)J" } : Jvm.MethodName) jdk_29_method_66_code (4 : Nat) (Option.some Jvm.ClassFile.FieldType.long)]
set_option maxRecDepth 65536 in
theorem codes_eq : words1.filter isCode = codes1 := rfl
theorem w_codes : ∀ c ∈ words1.filter isCode, c.before args0 about1 = true := by
  rw [codes_eq]
  intro c hc
  simp only [codes1, List.mem_cons, List.not_mem_nil, or_false] at hc
  rcases hc with rfl | rfl | rfl | rfl | rfl | rfl | rfl
  · exact w_c0
  · exact w_c1
  · exact w_c2
  · exact w_c3
  · exact w_c4
  · exact w_c5
  · exact w_c6
set_option maxRecDepth 65536 in
theorem w_t1 : (words1.take 24).all (fun c => isCode c || c.before args0 about1) = true := by decide +kernel
set_option maxRecDepth 65536 in
theorem w_t2 : (words1.drop 24).all (fun c => isCode c || c.before args0 about1) = true := by decide +kernel
theorem w_tables : (allAtoms (Jvm.Cond.code x code maxLocals ret :: tables_1)).before args0 about1 = true := by
  rw [allAtoms_all]
  show words1.all (fun c => c.before args0 about1) = true
  refine all_split ?_ w_codes
  rw [← List.take_append_drop 24 words1, List.all_append, w_t1, w_t2]
  rfl
set_option maxRecDepth 65536 in
theorem w_case : (Jvm.Cond.and given_1 narrow_1).before args0 about1 = true := by decide +kernel
theorem w_applies : (headSpec (Jvm.Cond.code x code maxLocals ret :: tables_1) room_1).applies x e0.platform about1 = true :=
  (Spec.applies_iff w_frames).mpr ⟨w_running, w_runnable, w_alone, w_named, w_hears, w_ripe, w_room, w_tables⟩
theorem atStart : AtStart classFile x code maxLocals ret World_1 tables_1 room_1 Calls_1 rest_1 Pre_1 launch0 p0 e0 about1 theMethod args0 below0 :=
  ⟨lists_1, trivial, launch0.admits_env _ _ _, launch0.least_env, fairChoices_fair.cas, fairChoices_fair.clock, w_frames, w_args, w_heap, w_applies, trivial, trivial, w_case⟩
end start1
theorem witness_1 : WitnessClaimed_1 := ⟨start1.p0, start1.e0, start1.about1, start1.theMethod, start1.args0, start1.below0, start1.atStart⟩
end Jvm.Pilot.@@N@@
