import JvmDerived
import JvmDerived.Pilot.@@N@@Statement
import JvmDerived.Pilot.@@N@@Code
set_option linter.unusedVariables false
set_option linter.unusedSimpArgs false

namespace Jvm.OwnKit
open Sem ClassFile Op Lib Jvm.Stand Jvm.Free Jvm.LawKit Jvm.RoadKit Jvm.Free.Fl
/-- what is left to show of a run: from U it ends and returns, with E of the value, the end and the places written -/
def Goes (p : Program) (e : Env) (below : List Frame) (E : Option Value → State → List Loc → Prop) (U : State) : Prop :=
  ∃ s₂ v L, Steps p.tables e below U s₂ ∧ s₂.status = .running ∧ Ended s₂ below (.returned v) ∧ E v s₂ L
/-- the common end: nothing below n0 is written, Q holds of the value and the heap, the frame is k cells and j slots -/
def En (s : State) (n0 k j : Nat) (Q : Option Value → Heap → Prop) (v : Option Value) (s₂ : State) (L : List Loc) : Prop := (Fr n0 L ∧ Q v s₂.heap) ∧ FrameEnd s (.returned v) s₂ L k j
/-- where a walk of the body y stands -/
def Wk (Z : State) (y : MethodName) (bytes : ByteArray) (ml : Nat) (ret : Option FieldType) (n0 : Nat) (p : Program) (l : Launch) (e : Env) (R : Room) (s : State) (m : MethodId) (args : Array Value) (below : List Frame) (meth : Method) (c : Code) (T : State) (kc ks : Nat) : Prop :=
  (p.tables.exec = Jvm.exec ∧ Z.Warmed39 s.vm ∧ s.vm.findClass y.cls = some m.cls ∧ c.code = bytes ∧ c.maxLocals = ml ∧ meth.sig.returnType = ret ∧ meth.locks = false ∧ meth.name = y.name) ∧ ∃ locs, Stand p l e R s m args below meth c T locs kc ks ∧ Fr n0 locs
/-- a body's contract: called with the values as over the heap h0 it returns with Post -/
def Con (l : Launch) (Z : State) (n0 : Nat) (y : MethodName) (ws : List Cond) (bytes : ByteArray) (ml : Nat) (ret : Option FieldType) (rm : Room) (as : Array Value) (h0 : Heap) (Post : Option Value → Heap → Prop) : Prop :=
  MetFree l y (head1 (Cond.code y bytes ml ret :: ws) rm) (fun a U => a = as ∧ Z.Warmed39 U.vm ∧ U.heap = h0) (fun _ _ _ _ _ => True) (fun _ U o U' => ∃ v L, o = .returned v ∧ (Fr n0 L ∧ Post v U'.heap) ∧ FrameEnd U o U' L rm.cells rm.slots)
section Laws
variable {Z : State} {y : MethodName} {bytes : ByteArray} {ml : Nat} {ret : Option FieldType} {n0 : Nat} {p : Program} {l : Launch} {e : Env} {R : Room} {s : State} {m : MethodId} {args : Array Value} {below : List Frame} {meth : Method} {c : Code} {T : State} {kc ks k j : Nat} {Q : Option Value → Heap → Prop} {E : Option Value → State → List Loc → Prop} {pc pc' : Nat} {ls : Array Slot} {st : List Value} {a0 : Array Value}
theorem Goes.back {U U' : State} (g : Goes p e below E U') (h : ∀ t, Steps p.tables e below U' t → Steps p.tables e below U t) : Goes p e below E U := by
  obtain ⟨s₂, v, L, h1, h2⟩ := g; exact ⟨s₂, v, L, h _ h1, h2⟩
theorem Goes.mono {U : State} {E' : Option Value → State → List Loc → Prop} (g : Goes p e below E U) (h : ∀ v t L, E v t L → E' v t L) : Goes p e below E' U := by
  obtain ⟨s₂, v, L, h1, h2, h3, h4⟩ := g; exact ⟨s₂, v, L, h1, h2, h3, h _ _ _ h4⟩
theorem Con.mono {ws : List Cond} {rm : Room} {as : Array Value} {h0 : Heap} {Post Post' : Option Value → Heap → Prop} (C : Con l Z n0 y ws bytes ml ret rm as h0 Post) (h : ∀ v h, Post v h → Post' v h) : Con l Z n0 y ws bytes ml ret rm as h0 Post' := by
  intro p e ha hc hk s m args below hf happ hP hK
  obtain ⟨a, b, h1, h2, h3, v, L, h4, ⟨h5, h6⟩, h7⟩ := C p e ha hc hk s m args below hf happ hP hK
  exact ⟨a, b, h1, h2, h3, v, L, h4, ⟨h5, h _ _ h6⟩, h7⟩

theorem Wk.hx (W : Wk Z y bytes ml ret n0 p l e R s m args below meth c T kc ks) : p.tables.exec = Jvm.exec := W.1.1
theorem Wk.hZ (W : Wk Z y bytes ml ret n0 p l e R s m args below meth c T kc ks) : Z.Warmed39 s.vm := W.1.2.1
theorem Wk.hown (W : Wk Z y bytes ml ret n0 p l e R s m args below meth c T kc ks) : s.vm.findClass y.cls = some m.cls := W.1.2.2.1
theorem Wk.hby (W : Wk Z y bytes ml ret n0 p l e R s m args below meth c T kc ks) : c.code = bytes := W.1.2.2.2.1
theorem Wk.hml (W : Wk Z y bytes ml ret n0 p l e R s m args below meth c T kc ks) : c.maxLocals = ml := W.1.2.2.2.2.1
theorem Wk.hret (W : Wk Z y bytes ml ret n0 p l e R s m args below meth c T kc ks) : meth.sig.returnType = ret := W.1.2.2.2.2.2.1
theorem Wk.hlk (W : Wk Z y bytes ml ret n0 p l e R s m args below meth c T kc ks) : meth.locks = false := W.1.2.2.2.2.2.2.1
theorem Wk.hnm (W : Wk Z y bytes ml ret n0 p l e R s m args below meth c T kc ks) : meth.name = y.name := W.1.2.2.2.2.2.2.2
theorem Wk.here (W : Wk Z y bytes ml ret n0 p l e R s m args below meth c T kc ks) : At T m c below := by obtain ⟨_, _, X, _⟩ := W; exact X.here
theorem g_iloadN (W : Wk Z y bytes ml ret n0 p l e R s m args below meth c T kc ks) {i : Fin 4} {v : Int32} (hd : decode bytes pc = .ok (.iload_n i, 1)) (hpc : pc + 1 = pc') (hl : ls[i.val]? = some (.val (.int v))) (K : Goes p e below E (T.setTop (mkF m pc' ls (.int v :: st)))) : Goes p e below E (T.setTop (mkF m pc ls st)) := by
  subst hpc; exact K.back fun _ r => XS.iloadN W.here W.hx rfl (hb W.hby hd) hl r
theorem g_iload (W : Wk Z y bytes ml ret n0 p l e R s m args below meth c T kc ks) {i : Nat} {v : Int32} (hd : decode bytes pc = .ok (.iload i, 2)) (hpc : pc + 2 = pc') (hl : ls[i]? = some (.val (.int v))) (K : Goes p e below E (T.setTop (mkF m pc' ls (.int v :: st)))) : Goes p e below E (T.setTop (mkF m pc ls st)) := by
  subst hpc; exact K.back fun _ r => XS.iload W.here W.hx rfl (hb W.hby hd) hl r
theorem g_lloadN (W : Wk Z y bytes ml ret n0 p l e R s m args below meth c T kc ks) {i : Fin 4} {v : Int64} (hd : decode bytes pc = .ok (.lload_n i, 1)) (hpc : pc + 1 = pc') (hl : ls[i.val]? = some (.val (.long v))) (K : Goes p e below E (T.setTop (mkF m pc' ls (.long v :: st)))) : Goes p e below E (T.setTop (mkF m pc ls st)) := by
  subst hpc; exact K.back fun _ r => XT.lloadN W.here W.hx rfl (hb W.hby hd) hl r
theorem g_lload (W : Wk Z y bytes ml ret n0 p l e R s m args below meth c T kc ks) {i : Nat} {v : Int64} (hd : decode bytes pc = .ok (.lload i, 2)) (hpc : pc + 2 = pc') (hl : ls[i]? = some (.val (.long v))) (K : Goes p e below E (T.setTop (mkF m pc' ls (.long v :: st)))) : Goes p e below E (T.setTop (mkF m pc ls st)) := by
  subst hpc; exact K.back fun _ r => XT.lload W.here W.hx rfl (hb W.hby hd) hl r
theorem g_dloadN (W : Wk Z y bytes ml ret n0 p l e R s m args below meth c T kc ks) {i : Fin 4} {v : UInt64} (hd : decode bytes pc = .ok (.dload_n i, 1)) (hpc : pc + 1 = pc') (hl : ls[i.val]? = some (.val (.double v))) (K : Goes p e below E (T.setTop (mkF m pc' ls (.double v :: st)))) : Goes p e below E (T.setTop (mkF m pc ls st)) := by
  subst hpc; exact K.back fun _ r => XS.dloadN W.here W.hx rfl (hb W.hby hd) hl r
theorem g_dload (W : Wk Z y bytes ml ret n0 p l e R s m args below meth c T kc ks) {i : Nat} {v : UInt64} (hd : decode bytes pc = .ok (.dload i, 2)) (hpc : pc + 2 = pc') (hl : ls[i]? = some (.val (.double v))) (K : Goes p e below E (T.setTop (mkF m pc' ls (.double v :: st)))) : Goes p e below E (T.setTop (mkF m pc ls st)) := by
  subst hpc; exact K.back fun _ r => XS.dload W.here W.hx rfl (hb W.hby hd) hl r
theorem g_floadN (W : Wk Z y bytes ml ret n0 p l e R s m args below meth c T kc ks) {i : Fin 4} {v : UInt32} (hd : decode bytes pc = .ok (.fload_n i, 1)) (hpc : pc + 1 = pc') (hl : ls[i.val]? = some (.val (.float v))) (K : Goes p e below E (T.setTop (mkF m pc' ls (.float v :: st)))) : Goes p e below E (T.setTop (mkF m pc ls st)) := by
  subst hpc; exact K.back fun _ r => XS.floadN W.here W.hx rfl (hb W.hby hd) hl r
theorem g_fload (W : Wk Z y bytes ml ret n0 p l e R s m args below meth c T kc ks) {i : Nat} {v : UInt32} (hd : decode bytes pc = .ok (.fload i, 2)) (hpc : pc + 2 = pc') (hl : ls[i]? = some (.val (.float v))) (K : Goes p e below E (T.setTop (mkF m pc' ls (.float v :: st)))) : Goes p e below E (T.setTop (mkF m pc ls st)) := by
  subst hpc; exact K.back fun _ r => XS.fload W.here W.hx rfl (hb W.hby hd) hl r
theorem g_aloadN (W : Wk Z y bytes ml ret n0 p l e R s m args below meth c T kc ks) {i : Fin 4} {v : Value} (hd : decode bytes pc = .ok (.aload_n i, 1)) (hpc : pc + 1 = pc') (hl : ls[i.val]? = some (.val v)) (hv : v.isRef = true) (K : Goes p e below E (T.setTop (mkF m pc' ls (v :: st)))) : Goes p e below E (T.setTop (mkF m pc ls st)) := by
  subst hpc; exact K.back fun _ r => XS.aloadN W.here W.hx rfl (hb W.hby hd) hl hv r
theorem g_aload (W : Wk Z y bytes ml ret n0 p l e R s m args below meth c T kc ks) {i : Nat} {v : Value} (hd : decode bytes pc = .ok (.aload i, 2)) (hpc : pc + 2 = pc') (hl : ls[i]? = some (.val v)) (hv : v.isRef = true) (K : Goes p e below E (T.setTop (mkF m pc' ls (v :: st)))) : Goes p e below E (T.setTop (mkF m pc ls st)) := by
  subst hpc; exact K.back fun _ r => XS.aload W.here W.hx rfl (hb W.hby hd) hl hv r
theorem g_istoreN (W : Wk Z y bytes ml ret n0 p l e R s m args below meth c T kc ks) {i : Fin 4} {v : Int32} {ls' : Array Slot} (hd : decode bytes pc = .ok (.istore_n i, 1)) (hpc : pc + 1 = pc') (hl : storeLocals ls i.val (.int v) = some ls') (K : Goes p e below E (T.setTop (mkF m pc' ls' st))) : Goes p e below E (T.setTop (mkF m pc ls (.int v :: st))) := by
  subst hpc; exact K.back fun _ r => XS.istoreN W.here W.hx rfl (hb W.hby hd) rfl hl r
theorem g_istore (W : Wk Z y bytes ml ret n0 p l e R s m args below meth c T kc ks) {i : Nat} {v : Int32} {ls' : Array Slot} (hd : decode bytes pc = .ok (.istore i, 2)) (hpc : pc + 2 = pc') (hl : storeLocals ls i (.int v) = some ls') (K : Goes p e below E (T.setTop (mkF m pc' ls' st))) : Goes p e below E (T.setTop (mkF m pc ls (.int v :: st))) := by
  subst hpc; exact K.back fun _ r => XS.istore W.here W.hx rfl (hb W.hby hd) rfl hl r
theorem g_lstoreN (W : Wk Z y bytes ml ret n0 p l e R s m args below meth c T kc ks) {i : Fin 4} {v : Int64} {ls' : Array Slot} (hd : decode bytes pc = .ok (.lstore_n i, 1)) (hpc : pc + 1 = pc') (hl : storeLocals ls i.val (.long v) = some ls') (K : Goes p e below E (T.setTop (mkF m pc' ls' st))) : Goes p e below E (T.setTop (mkF m pc ls (.long v :: st))) := by
  subst hpc; exact K.back fun _ r => XT.lstoreN W.here W.hx rfl (hb W.hby hd) rfl hl r
theorem g_lstore (W : Wk Z y bytes ml ret n0 p l e R s m args below meth c T kc ks) {i : Nat} {v : Int64} {ls' : Array Slot} (hd : decode bytes pc = .ok (.lstore i, 2)) (hpc : pc + 2 = pc') (hl : storeLocals ls i (.long v) = some ls') (K : Goes p e below E (T.setTop (mkF m pc' ls' st))) : Goes p e below E (T.setTop (mkF m pc ls (.long v :: st))) := by
  subst hpc; exact K.back fun _ r => XT.lstore W.here W.hx rfl (hb W.hby hd) rfl hl r
theorem g_dstoreN (W : Wk Z y bytes ml ret n0 p l e R s m args below meth c T kc ks) {i : Fin 4} {v : UInt64} {ls' : Array Slot} (hd : decode bytes pc = .ok (.dstore_n i, 1)) (hpc : pc + 1 = pc') (hl : storeLocals ls i.val (.double v) = some ls') (K : Goes p e below E (T.setTop (mkF m pc' ls' st))) : Goes p e below E (T.setTop (mkF m pc ls (.double v :: st))) := by
  subst hpc; exact K.back fun _ r => XS.dstoreN W.here W.hx rfl (hb W.hby hd) rfl hl r
theorem g_dstore (W : Wk Z y bytes ml ret n0 p l e R s m args below meth c T kc ks) {i : Nat} {v : UInt64} {ls' : Array Slot} (hd : decode bytes pc = .ok (.dstore i, 2)) (hpc : pc + 2 = pc') (hl : storeLocals ls i (.double v) = some ls') (K : Goes p e below E (T.setTop (mkF m pc' ls' st))) : Goes p e below E (T.setTop (mkF m pc ls (.double v :: st))) := by
  subst hpc; exact K.back fun _ r => XS.dstore W.here W.hx rfl (hb W.hby hd) rfl hl r
theorem g_fstoreN (W : Wk Z y bytes ml ret n0 p l e R s m args below meth c T kc ks) {i : Fin 4} {v : UInt32} {ls' : Array Slot} (hd : decode bytes pc = .ok (.fstore_n i, 1)) (hpc : pc + 1 = pc') (hl : storeLocals ls i.val (.float v) = some ls') (K : Goes p e below E (T.setTop (mkF m pc' ls' st))) : Goes p e below E (T.setTop (mkF m pc ls (.float v :: st))) := by
  subst hpc; exact K.back fun _ r => XS.fstoreN W.here W.hx rfl (hb W.hby hd) rfl hl r
theorem g_fstore (W : Wk Z y bytes ml ret n0 p l e R s m args below meth c T kc ks) {i : Nat} {v : UInt32} {ls' : Array Slot} (hd : decode bytes pc = .ok (.fstore i, 2)) (hpc : pc + 2 = pc') (hl : storeLocals ls i (.float v) = some ls') (K : Goes p e below E (T.setTop (mkF m pc' ls' st))) : Goes p e below E (T.setTop (mkF m pc ls (.float v :: st))) := by
  subst hpc; exact K.back fun _ r => XS.fstore W.here W.hx rfl (hb W.hby hd) rfl hl r
theorem g_astoreN (W : Wk Z y bytes ml ret n0 p l e R s m args below meth c T kc ks) {i : Fin 4} {v : Value} {ls' : Array Slot} (hd : decode bytes pc = .ok (.astore_n i, 1)) (hpc : pc + 1 = pc') (hv : v.isRef = true) (hl : storeLocals ls i.val v = some ls') (K : Goes p e below E (T.setTop (mkF m pc' ls' st))) : Goes p e below E (T.setTop (mkF m pc ls (v :: st))) := by
  subst hpc; exact K.back fun _ r => XS.astoreN W.here W.hx rfl (hb W.hby hd) rfl hv hl r
theorem g_astore (W : Wk Z y bytes ml ret n0 p l e R s m args below meth c T kc ks) {i : Nat} {v : Value} {ls' : Array Slot} (hd : decode bytes pc = .ok (.astore i, 2)) (hpc : pc + 2 = pc') (hv : v.isRef = true) (hl : storeLocals ls i v = some ls') (K : Goes p e below E (T.setTop (mkF m pc' ls' st))) : Goes p e below E (T.setTop (mkF m pc ls (v :: st))) := by
  subst hpc; exact K.back fun _ r => XS.astore W.here W.hx rfl (hb W.hby hd) rfl hv hl r
theorem g_iconst (W : Wk Z y bytes ml ret n0 p l e R s m args below meth c T kc ks) {i : Int} {v : Int32} (hd : decode bytes pc = .ok (.iconst i, 1)) (hpc : pc + 1 = pc') (hv : Int32.ofInt i = v) (K : Goes p e below E (T.setTop (mkF m pc' ls (.int v :: st)))) : Goes p e below E (T.setTop (mkF m pc ls st)) := by
  subst hpc; exact K.back fun _ r => XS.iconst W.here W.hx rfl (hb W.hby hd) (by rw [hv]; exact r)
theorem g_bipush (W : Wk Z y bytes ml ret n0 p l e R s m args below meth c T kc ks) {i : Int} {v : Int32} (hd : decode bytes pc = .ok (.bipush i, 2)) (hpc : pc + 2 = pc') (hv : (Int8.ofInt i).toInt32 = v) (K : Goes p e below E (T.setTop (mkF m pc' ls (.int v :: st)))) : Goes p e below E (T.setTop (mkF m pc ls st)) := by
  subst hpc; exact K.back fun _ r => XS.bipush W.here W.hx rfl (hb W.hby hd) (by rw [hv]; exact r)
theorem g_sipush (W : Wk Z y bytes ml ret n0 p l e R s m args below meth c T kc ks) {i : Int} {v : Int32} (hd : decode bytes pc = .ok (.sipush i, 3)) (hpc : pc + 3 = pc') (hv : (Int16.ofInt i).toInt32 = v) (K : Goes p e below E (T.setTop (mkF m pc' ls (.int v :: st)))) : Goes p e below E (T.setTop (mkF m pc ls st)) := by
  subst hpc; exact K.back fun _ r => XS.sipush W.here W.hx rfl (hb W.hby hd) (by rw [hv]; exact r)
theorem g_lconst (W : Wk Z y bytes ml ret n0 p l e R s m args below meth c T kc ks) {i : Fin 2} {v : Int64} (hd : decode bytes pc = .ok (.lconst i, 1)) (hpc : pc + 1 = pc') (hv : Int64.ofNat i = v) (K : Goes p e below E (T.setTop (mkF m pc' ls (.long v :: st)))) : Goes p e below E (T.setTop (mkF m pc ls st)) := by
  subst hpc; exact K.back fun _ r => XT.lconst W.here W.hx rfl (hb W.hby hd) (by rw [hv]; exact r)
theorem g_dconst0 (W : Wk Z y bytes ml ret n0 p l e R s m args below meth c T kc ks)  (hd : decode bytes pc = .ok (.dconst 0, 1)) (hpc : pc + 1 = pc')  (K : Goes p e below E (T.setTop (mkF m pc' ls (.double 0 :: st)))) : Goes p e below E (T.setTop (mkF m pc ls st)) := by
  subst hpc; exact K.back fun _ r => XS.dconst0 W.here W.hx rfl (hb W.hby hd) rfl r
theorem g_dconst1 (W : Wk Z y bytes ml ret n0 p l e R s m args below meth c T kc ks)  (hd : decode bytes pc = .ok (.dconst 1, 1)) (hpc : pc + 1 = pc')  (K : Goes p e below E (T.setTop (mkF m pc' ls (.double 4607182418800017408 :: st)))) : Goes p e below E (T.setTop (mkF m pc ls st)) := by
  subst hpc; exact K.back fun _ r => XS.dconst1 W.here W.hx rfl (hb W.hby hd) rfl r
theorem g_aconst_null (W : Wk Z y bytes ml ret n0 p l e R s m args below meth c T kc ks)  (hd : decode bytes pc = .ok (.aconst_null, 1)) (hpc : pc + 1 = pc')  (K : Goes p e below E (T.setTop (mkF m pc' ls (.null :: st)))) : Goes p e below E (T.setTop (mkF m pc ls st)) := by
  subst hpc; exact K.back fun _ r => XS.aconstNull W.here W.hx rfl (hb W.hby hd) r
theorem g_iadd (W : Wk Z y bytes ml ret n0 p l e R s m args below meth c T kc ks) {x y0 v : Int32} (hd : decode bytes pc = .ok (.iadd, 1)) (hpc : pc + 1 = pc') (hv : x + y0 = v) (K : Goes p e below E (T.setTop (mkF m pc' ls (.int v :: st)))) : Goes p e below E (T.setTop (mkF m pc ls (.int y0 :: .int x :: st))) := by
  subst hpc; exact K.back fun _ r => XS.iadd W.here W.hx rfl (hb W.hby hd) rfl (by rw [hv]; exact r)
theorem g_isub (W : Wk Z y bytes ml ret n0 p l e R s m args below meth c T kc ks) {x y0 v : Int32} (hd : decode bytes pc = .ok (.isub, 1)) (hpc : pc + 1 = pc') (hv : x - y0 = v) (K : Goes p e below E (T.setTop (mkF m pc' ls (.int v :: st)))) : Goes p e below E (T.setTop (mkF m pc ls (.int y0 :: .int x :: st))) := by
  subst hpc; exact K.back fun _ r => XS.isub W.here W.hx rfl (hb W.hby hd) rfl (by rw [hv]; exact r)
theorem g_iand (W : Wk Z y bytes ml ret n0 p l e R s m args below meth c T kc ks) {x y0 v : Int32} (hd : decode bytes pc = .ok (.iand, 1)) (hpc : pc + 1 = pc') (hv : x &&& y0 = v) (K : Goes p e below E (T.setTop (mkF m pc' ls (.int v :: st)))) : Goes p e below E (T.setTop (mkF m pc ls (.int y0 :: .int x :: st))) := by
  subst hpc; exact K.back fun _ r => XS.iand W.here W.hx rfl (hb W.hby hd) rfl (by rw [hv]; exact r)
theorem g_imul (W : Wk Z y bytes ml ret n0 p l e R s m args below meth c T kc ks) {x y0 v : Int32} (hd : decode bytes pc = .ok (.imul, 1)) (hpc : pc + 1 = pc') (hv : x * y0 = v) (K : Goes p e below E (T.setTop (mkF m pc' ls (.int v :: st)))) : Goes p e below E (T.setTop (mkF m pc ls (.int y0 :: .int x :: st))) := by
  subst hpc; exact K.back fun _ r => XS.imul W.here W.hx rfl (hb W.hby hd) rfl (by rw [hv]; exact r)
theorem g_ixor (W : Wk Z y bytes ml ret n0 p l e R s m args below meth c T kc ks) {x y0 v : Int32} (hd : decode bytes pc = .ok (.ixor, 1)) (hpc : pc + 1 = pc') (hv : x ^^^ y0 = v) (K : Goes p e below E (T.setTop (mkF m pc' ls (.int v :: st)))) : Goes p e below E (T.setTop (mkF m pc ls (.int y0 :: .int x :: st))) := by
  subst hpc; exact K.back fun _ r => XT.ixor W.here W.hx rfl (hb W.hby hd) rfl (by rw [hv]; exact r)
theorem g_ior (W : Wk Z y bytes ml ret n0 p l e R s m args below meth c T kc ks) {x y0 v : Int32} (hd : decode bytes pc = .ok (.ior, 1)) (hpc : pc + 1 = pc') (hv : x ||| y0 = v) (K : Goes p e below E (T.setTop (mkF m pc' ls (.int v :: st)))) : Goes p e below E (T.setTop (mkF m pc ls (.int y0 :: .int x :: st))) := by
  subst hpc; exact K.back fun _ r => XT.ior W.here W.hx rfl (hb W.hby hd) rfl (by rw [hv]; exact r)
theorem g_ishl (W : Wk Z y bytes ml ret n0 p l e R s m args below meth c T kc ks) {x y0 v : Int32} (hd : decode bytes pc = .ok (.ishl, 1)) (hpc : pc + 1 = pc') (hv : x <<< (y0 &&& 31) = v) (K : Goes p e below E (T.setTop (mkF m pc' ls (.int v :: st)))) : Goes p e below E (T.setTop (mkF m pc ls (.int y0 :: .int x :: st))) := by
  subst hpc; exact K.back fun _ r => XT.ishl W.here W.hx rfl (hb W.hby hd) rfl (by rw [hv]; exact r)
theorem g_ishr (W : Wk Z y bytes ml ret n0 p l e R s m args below meth c T kc ks) {x y0 v : Int32} (hd : decode bytes pc = .ok (.ishr, 1)) (hpc : pc + 1 = pc') (hv : x >>> (y0 &&& 31) = v) (K : Goes p e below E (T.setTop (mkF m pc' ls (.int v :: st)))) : Goes p e below E (T.setTop (mkF m pc ls (.int y0 :: .int x :: st))) := by
  subst hpc; exact K.back fun _ r => XT.ishr W.here W.hx rfl (hb W.hby hd) rfl (by rw [hv]; exact r)
theorem g_iushr (W : Wk Z y bytes ml ret n0 p l e R s m args below meth c T kc ks) {x y0 v : Int32} (hd : decode bytes pc = .ok (.iushr, 1)) (hpc : pc + 1 = pc') (hv : XT.ushr x y0 = v) (K : Goes p e below E (T.setTop (mkF m pc' ls (.int v :: st)))) : Goes p e below E (T.setTop (mkF m pc ls (.int y0 :: .int x :: st))) := by
  subst hpc; exact K.back fun _ r => XT.iushr W.here W.hx rfl (hb W.hby hd) rfl (by rw [hv]; exact r)
theorem g_ineg (W : Wk Z y bytes ml ret n0 p l e R s m args below meth c T kc ks) {x v : Int32} (hd : decode bytes pc = .ok (.ineg, 1)) (hpc : pc + 1 = pc') (hv : -x = v) (K : Goes p e below E (T.setTop (mkF m pc' ls (.int v :: st)))) : Goes p e below E (T.setTop (mkF m pc ls (.int x :: st))) := by
  subst hpc; exact K.back fun _ r => XS.ineg W.here W.hx rfl (hb W.hby hd) rfl (by rw [hv]; exact r)
theorem g_ladd (W : Wk Z y bytes ml ret n0 p l e R s m args below meth c T kc ks) {x y0 v : Int64} (hd : decode bytes pc = .ok (.ladd, 1)) (hpc : pc + 1 = pc') (hv : x + y0 = v) (K : Goes p e below E (T.setTop (mkF m pc' ls (.long v :: st)))) : Goes p e below E (T.setTop (mkF m pc ls (.long y0 :: .long x :: st))) := by
  subst hpc; exact K.back fun _ r => XT.ladd W.here W.hx rfl (hb W.hby hd) rfl (by rw [hv]; exact r)
theorem g_lsub (W : Wk Z y bytes ml ret n0 p l e R s m args below meth c T kc ks) {x y0 v : Int64} (hd : decode bytes pc = .ok (.lsub, 1)) (hpc : pc + 1 = pc') (hv : x - y0 = v) (K : Goes p e below E (T.setTop (mkF m pc' ls (.long v :: st)))) : Goes p e below E (T.setTop (mkF m pc ls (.long y0 :: .long x :: st))) := by
  subst hpc; exact K.back fun _ r => XT.lsub W.here W.hx rfl (hb W.hby hd) rfl (by rw [hv]; exact r)
theorem g_lmul (W : Wk Z y bytes ml ret n0 p l e R s m args below meth c T kc ks) {x y0 v : Int64} (hd : decode bytes pc = .ok (.lmul, 1)) (hpc : pc + 1 = pc') (hv : x * y0 = v) (K : Goes p e below E (T.setTop (mkF m pc' ls (.long v :: st)))) : Goes p e below E (T.setTop (mkF m pc ls (.long y0 :: .long x :: st))) := by
  subst hpc; exact K.back fun _ r => XT.lmul W.here W.hx rfl (hb W.hby hd) rfl (by rw [hv]; exact r)
theorem g_land (W : Wk Z y bytes ml ret n0 p l e R s m args below meth c T kc ks) {x y0 v : Int64} (hd : decode bytes pc = .ok (.land, 1)) (hpc : pc + 1 = pc') (hv : x &&& y0 = v) (K : Goes p e below E (T.setTop (mkF m pc' ls (.long v :: st)))) : Goes p e below E (T.setTop (mkF m pc ls (.long y0 :: .long x :: st))) := by
  subst hpc; exact K.back fun _ r => XT.land W.here W.hx rfl (hb W.hby hd) rfl (by rw [hv]; exact r)
theorem g_lor (W : Wk Z y bytes ml ret n0 p l e R s m args below meth c T kc ks) {x y0 v : Int64} (hd : decode bytes pc = .ok (.lor, 1)) (hpc : pc + 1 = pc') (hv : x ||| y0 = v) (K : Goes p e below E (T.setTop (mkF m pc' ls (.long v :: st)))) : Goes p e below E (T.setTop (mkF m pc ls (.long y0 :: .long x :: st))) := by
  subst hpc; exact K.back fun _ r => XT.lor W.here W.hx rfl (hb W.hby hd) rfl (by rw [hv]; exact r)
theorem g_lxor (W : Wk Z y bytes ml ret n0 p l e R s m args below meth c T kc ks) {x y0 v : Int64} (hd : decode bytes pc = .ok (.lxor, 1)) (hpc : pc + 1 = pc') (hv : x ^^^ y0 = v) (K : Goes p e below E (T.setTop (mkF m pc' ls (.long v :: st)))) : Goes p e below E (T.setTop (mkF m pc ls (.long y0 :: .long x :: st))) := by
  subst hpc; exact K.back fun _ r => XT.lxor W.here W.hx rfl (hb W.hby hd) rfl (by rw [hv]; exact r)
theorem g_lneg (W : Wk Z y bytes ml ret n0 p l e R s m args below meth c T kc ks) {x v : Int64} (hd : decode bytes pc = .ok (.lneg, 1)) (hpc : pc + 1 = pc') (hv : -x = v) (K : Goes p e below E (T.setTop (mkF m pc' ls (.long v :: st)))) : Goes p e below E (T.setTop (mkF m pc ls (.long x :: st))) := by
  subst hpc; exact K.back fun _ r => XT.lneg W.here W.hx rfl (hb W.hby hd) rfl (by rw [hv]; exact r)
theorem g_lushr (W : Wk Z y bytes ml ret n0 p l e R s m args below meth c T kc ks) {x v : Int64} {y0 : Int32} (hd : decode bytes pc = .ok (.lushr, 1)) (hpc : pc + 1 = pc') (hv : XT.ushrL x y0 = v) (K : Goes p e below E (T.setTop (mkF m pc' ls (.long v :: st)))) : Goes p e below E (T.setTop (mkF m pc ls (.int y0 :: .long x :: st))) := by
  subst hpc; exact K.back fun _ r => XT.lushr W.here W.hx rfl (hb W.hby hd) rfl (by rw [hv]; exact r)
theorem g_lcmp (W : Wk Z y bytes ml ret n0 p l e R s m args below meth c T kc ks) {x y0 : Int64} {v : Int32} (hd : decode bytes pc = .ok (.lcmp, 1)) (hpc : pc + 1 = pc') (hv : XT.cmpL x y0 = v) (K : Goes p e below E (T.setTop (mkF m pc' ls (.int v :: st)))) : Goes p e below E (T.setTop (mkF m pc ls (.long y0 :: .long x :: st))) := by
  subst hpc; exact K.back fun _ r => XT.lcmp W.here W.hx rfl (hb W.hby hd) rfl (by rw [hv]; exact r)
theorem g_i2l (W : Wk Z y bytes ml ret n0 p l e R s m args below meth c T kc ks) {x : Int32} {v : Int64} (hd : decode bytes pc = .ok (.i2l, 1)) (hpc : pc + 1 = pc') (hv : x.toInt64 = v) (K : Goes p e below E (T.setTop (mkF m pc' ls (.long v :: st)))) : Goes p e below E (T.setTop (mkF m pc ls (.int x :: st))) := by
  subst hpc; exact K.back fun _ r => XT.i2l W.here W.hx rfl (hb W.hby hd) rfl (by rw [hv]; exact r)
theorem g_l2i (W : Wk Z y bytes ml ret n0 p l e R s m args below meth c T kc ks) {x : Int64} {v : Int32} (hd : decode bytes pc = .ok (.l2i, 1)) (hpc : pc + 1 = pc') (hv : x.toInt32 = v) (K : Goes p e below E (T.setTop (mkF m pc' ls (.int v :: st)))) : Goes p e below E (T.setTop (mkF m pc ls (.long x :: st))) := by
  subst hpc; exact K.back fun _ r => XT.l2i W.here W.hx rfl (hb W.hby hd) rfl (by rw [hv]; exact r)
theorem g_i2d (W : Wk Z y bytes ml ret n0 p l e R s m args below meth c T kc ks) {x : Int32} {v : UInt64} (hd : decode bytes pc = .ok (.i2d, 1)) (hpc : pc + 1 = pc') (hv : FP.i2d x = v) (K : Goes p e below E (T.setTop (mkF m pc' ls (.double v :: st)))) : Goes p e below E (T.setTop (mkF m pc ls (.int x :: st))) := by
  subst hpc; exact K.back fun _ r => XS.i2dS W.here W.hx rfl (hb W.hby hd) rfl hv r
theorem g_l2d (W : Wk Z y bytes ml ret n0 p l e R s m args below meth c T kc ks) {x : Int64} {v : UInt64} (hd : decode bytes pc = .ok (.l2d, 1)) (hpc : pc + 1 = pc') (hv : FP.l2d x = v) (K : Goes p e below E (T.setTop (mkF m pc' ls (.double v :: st)))) : Goes p e below E (T.setTop (mkF m pc ls (.long x :: st))) := by
  subst hpc; exact K.back fun _ r => XS.l2dS W.here W.hx rfl (hb W.hby hd) rfl hv r
theorem g_dneg (W : Wk Z y bytes ml ret n0 p l e R s m args below meth c T kc ks) {x v : UInt64} (hd : decode bytes pc = .ok (.dneg, 1)) (hpc : pc + 1 = pc') (hv : FP.dneg x = v) (K : Goes p e below E (T.setTop (mkF m pc' ls (.double v :: st)))) : Goes p e below E (T.setTop (mkF m pc ls (.double x :: st))) := by
  subst hpc; exact K.back fun _ r => XS.dnegS W.here W.hx rfl (hb W.hby hd) rfl hv r
theorem g_dcmp (W : Wk Z y bytes ml ret n0 p l e R s m args below meth c T kc ks) {o : CmpOp} {x y0 : UInt64} {v : Int32} (hd : decode bytes pc = .ok (.dcmp o, 1)) (hpc : pc + 1 = pc') (hv : cmpValue (FP.dcmp x y0) o = v) (K : Goes p e below E (T.setTop (mkF m pc' ls (.int v :: st)))) : Goes p e below E (T.setTop (mkF m pc ls (.double y0 :: .double x :: st))) := by
  subst hpc; exact K.back fun _ r => XS.dcmpS W.here W.hx rfl (hb W.hby hd) rfl hv r
theorem g_dadd (W : Wk Z y bytes ml ret n0 p l e R s m args below meth c T kc ks) {x y0 v : UInt64} (hd : decode bytes pc = .ok (.dadd, 1)) (hpc : pc + 1 = pc') (hv : FP.dadd x y0 = v) (hn : NoNaN64 v) (K : Goes p e below E (T.setTop (mkF m pc' ls (.double v :: st)))) : Goes p e below E (T.setTop (mkF m pc ls (.double y0 :: .double x :: st))) := by
  subst hpc; exact K.back fun _ r => XS.daddS W.here W.hx rfl (hb W.hby hd) rfl (by rw [hv]; exact hn) hv r
theorem g_dsub (W : Wk Z y bytes ml ret n0 p l e R s m args below meth c T kc ks) {x y0 v : UInt64} (hd : decode bytes pc = .ok (.dsub, 1)) (hpc : pc + 1 = pc') (hv : FP.dsub x y0 = v) (hn : NoNaN64 v) (K : Goes p e below E (T.setTop (mkF m pc' ls (.double v :: st)))) : Goes p e below E (T.setTop (mkF m pc ls (.double y0 :: .double x :: st))) := by
  subst hpc; exact K.back fun _ r => XS.dsubS W.here W.hx rfl (hb W.hby hd) rfl (by rw [hv]; exact hn) hv r
theorem g_dmul (W : Wk Z y bytes ml ret n0 p l e R s m args below meth c T kc ks) {x y0 v : UInt64} (hd : decode bytes pc = .ok (.dmul, 1)) (hpc : pc + 1 = pc') (hv : FP.dmul x y0 = v) (hn : NoNaN64 v) (K : Goes p e below E (T.setTop (mkF m pc' ls (.double v :: st)))) : Goes p e below E (T.setTop (mkF m pc ls (.double y0 :: .double x :: st))) := by
  subst hpc; exact K.back fun _ r => XS.dmulS W.here W.hx rfl (hb W.hby hd) rfl (by rw [hv]; exact hn) hv r
theorem g_ddiv (W : Wk Z y bytes ml ret n0 p l e R s m args below meth c T kc ks) {x y0 v : UInt64} (hd : decode bytes pc = .ok (.ddiv, 1)) (hpc : pc + 1 = pc') (hv : FP.ddiv x y0 = v) (hn : NoNaN64 v) (K : Goes p e below E (T.setTop (mkF m pc' ls (.double v :: st)))) : Goes p e below E (T.setTop (mkF m pc ls (.double y0 :: .double x :: st))) := by
  subst hpc; exact K.back fun _ r => XS.ddivS W.here W.hx rfl (hb W.hby hd) rfl (by rw [hv]; exact hn) hv r
theorem g_dup (W : Wk Z y bytes ml ret n0 p l e R s m args below meth c T kc ks) {v : Value} (hd : decode bytes pc = .ok (.dup, 1)) (hpc : pc + 1 = pc') (hc : v.category = 1) (K : Goes p e below E (T.setTop (mkF m pc' ls (v :: v :: st)))) : Goes p e below E (T.setTop (mkF m pc ls (v :: st))) := by
  subst hpc; exact K.back fun _ r => XS.dup W.here W.hx rfl (hb W.hby hd) rfl hc r
theorem g_pop (W : Wk Z y bytes ml ret n0 p l e R s m args below meth c T kc ks) {v : Value} (hd : decode bytes pc = .ok (.pop, 1)) (hpc : pc + 1 = pc') (hc : v.category = 1) (K : Goes p e below E (T.setTop (mkF m pc' ls st))) : Goes p e below E (T.setTop (mkF m pc ls (v :: st))) := by
  subst hpc; exact K.back fun _ r => XT.pop W.here W.hx rfl (hb W.hby hd) rfl hc r
theorem g_dup_x1 (W : Wk Z y bytes ml ret n0 p l e R s m args below meth c T kc ks) {v w : Value} (hd : decode bytes pc = .ok (.dup_x1, 1)) (hpc : pc + 1 = pc') (hc : v.category = 1) (hc2 : w.category = 1) (K : Goes p e below E (T.setTop (mkF m pc' ls (v :: w :: v :: st)))) : Goes p e below E (T.setTop (mkF m pc ls (v :: w :: st))) := by
  subst hpc; exact K.back fun _ r => XT.dupX1 W.here W.hx rfl (hb W.hby hd) rfl hc hc2 r
theorem g_dup2 (W : Wk Z y bytes ml ret n0 p l e R s m args below meth c T kc ks) {v w : Value} (hd : decode bytes pc = .ok (.dup2, 1)) (hpc : pc + 1 = pc') (hc : v.category = 1) (hc2 : w.category = 1) (K : Goes p e below E (T.setTop (mkF m pc' ls (v :: w :: v :: w :: st)))) : Goes p e below E (T.setTop (mkF m pc ls (v :: w :: st))) := by
  subst hpc; exact K.back fun _ r => XT.dup2 W.here W.hx rfl (hb W.hby hd) rfl hc hc2 r
theorem g_iinc (W : Wk Z y bytes ml ret n0 p l e R s m args below meth c T kc ks) {i : Nat} {d : Int} {x v : Int32} {ls' : Array Slot} (hd : decode bytes pc = .ok (.iinc i d, 3)) (hpc : pc + 3 = pc') (h1 : ls[i]? = some (.val (.int x))) (hv : x + Int32.ofInt d = v) (hl : storeLocals ls i (.int v) = some ls') (K : Goes p e below E (T.setTop (mkF m pc' ls' st))) : Goes p e below E (T.setTop (mkF m pc ls st)) := by
  subst hpc; exact K.back fun _ r => XS.iinc W.here W.hx rfl (hb W.hby hd) h1 (by rw [hv]; exact hl) r
theorem g_idiv (W : Wk Z y bytes ml ret n0 p l e R s m args below meth c T kc ks) {x y0 v : Int32} (hd : decode bytes pc = .ok (.idiv, 1)) (hpc : pc + 1 = pc') (h0 : y0 ≠ 0) (hv : x / y0 = v) (K : Goes p e below E (T.setTop (mkF m pc' ls (.int v :: st)))) : Goes p e below E (T.setTop (mkF m pc ls (.int y0 :: .int x :: st))) := by
  subst hpc; exact K.back fun _ r => XS.idiv W.here W.hx rfl (hb W.hby hd) rfl h0 (by rw [hv]; exact r)
theorem g_irem (W : Wk Z y bytes ml ret n0 p l e R s m args below meth c T kc ks) {x y0 v : Int32} (hd : decode bytes pc = .ok (.irem, 1)) (hpc : pc + 1 = pc') (h0 : y0 ≠ 0) (hv : x - (x / y0) * y0 = v) (K : Goes p e below E (T.setTop (mkF m pc' ls (.int v :: st)))) : Goes p e below E (T.setTop (mkF m pc ls (.int y0 :: .int x :: st))) := by
  subst hpc; exact K.back fun _ r => XS.irem W.here W.hx rfl (hb W.hby hd) rfl h0 (by rw [hv]; exact r)
theorem g_ldiv (W : Wk Z y bytes ml ret n0 p l e R s m args below meth c T kc ks) {x y0 v : Int64} (hd : decode bytes pc = .ok (.ldiv, 1)) (hpc : pc + 1 = pc') (h0 : y0 ≠ 0) (hv : x / y0 = v) (K : Goes p e below E (T.setTop (mkF m pc' ls (.long v :: st)))) : Goes p e below E (T.setTop (mkF m pc ls (.long y0 :: .long x :: st))) := by
  subst hpc; exact K.back fun _ r => XT.ldiv W.here W.hx rfl (hb W.hby hd) rfl h0 (by rw [hv]; exact r)
theorem g_lrem (W : Wk Z y bytes ml ret n0 p l e R s m args below meth c T kc ks) {x y0 v : Int64} (hd : decode bytes pc = .ok (.lrem, 1)) (hpc : pc + 1 = pc') (h0 : y0 ≠ 0) (hv : x - (x / y0) * y0 = v) (K : Goes p e below E (T.setTop (mkF m pc' ls (.long v :: st)))) : Goes p e below E (T.setTop (mkF m pc ls (.long y0 :: .long x :: st))) := by
  subst hpc; exact K.back fun _ r => XT.lrem W.here W.hx rfl (hb W.hby hd) rfl h0 (by rw [hv]; exact r)
theorem g_lshl (W : Wk Z y bytes ml ret n0 p l e R s m args below meth c T kc ks) {x v : Int64} {y0 : Int32} (hd : decode bytes pc = .ok (.lshl, 1)) (hpc : pc + 1 = pc') (hv : x <<< (y0.toInt64 &&& 63) = v) (K : Goes p e below E (T.setTop (mkF m pc' ls (.long v :: st)))) : Goes p e below E (T.setTop (mkF m pc ls (.int y0 :: .long x :: st))) := by
  subst hpc; exact K.back fun _ r => XT.lshl W.here W.hx rfl (hb W.hby hd) rfl (by rw [hv]; exact r)
theorem g_lshr (W : Wk Z y bytes ml ret n0 p l e R s m args below meth c T kc ks) {x v : Int64} {y0 : Int32} (hd : decode bytes pc = .ok (.lshr, 1)) (hpc : pc + 1 = pc') (hv : x >>> (y0.toInt64 &&& 63) = v) (K : Goes p e below E (T.setTop (mkF m pc' ls (.long v :: st)))) : Goes p e below E (T.setTop (mkF m pc ls (.int y0 :: .long x :: st))) := by
  subst hpc; exact K.back fun _ r => XT.lshr W.here W.hx rfl (hb W.hby hd) rfl (by rw [hv]; exact r)
def cP : ClassFile.Cond → Int32 → Int32 → Prop
  | .eq, x, y => x = y
  | .ne, x, y => ¬ x = y
  | .lt, x, y => x < y
  | .ge, x, y => ¬ x < y
  | .gt, x, y => y < x
  | .le, x, y => ¬ y < x
theorem cP_yes {cd : ClassFile.Cond} {x y : Int32} (h : cP cd x y) : if_icmp.holds cd x y = true := by
  cases cd
  · exact (teq h).1
  · exact (feq h).2
  · exact (tlt h).1
  · exact (flt h).2.1
  · exact (tlt h).2.2.1
  · exact (flt h).2.2.2
theorem cP_no {cd : ClassFile.Cond} {x y : Int32} (h : ¬ cP cd x y) : if_icmp.holds cd x y = false := by
  cases cd
  · exact (feq h).1
  · exact (teq (Classical.not_not.mp h)).2
  · exact (flt h).1
  · exact (tlt (Classical.not_not.mp h)).2.1
  · exact (flt h).2.2.1
  · exact (tlt (Classical.not_not.mp h)).2.2.2
theorem g_goto (W : Wk Z y bytes ml ret n0 p l e R s m args below meth c T kc ks) {o : Int} (hd : decode bytes pc = .ok (.goto o, 3)) (hpc : (pc : Int) + o = (pc' : Nat)) (K : Goes p e below E (T.setTop (mkF m pc' ls st))) : Goes p e below E (T.setTop (mkF m pc ls st)) :=
  K.back fun _ r => XS.goto W.here W.hx rfl (pc0 := pc) (pc' := pc') rfl (hb W.hby hd) (by omega) (by omega) r
theorem g_if (W : Wk Z y bytes ml ret n0 p l e R s m args below meth c T kc ks) {cd : ClassFile.Cond} {x : Int32} {o : Int} {pcy : Nat} (hd : decode bytes pc = .ok (.ifCond cd o, 3)) (hy : (pc : Int) + o = (pcy : Nat)) (hpc : pc + 3 = pc') (KY : cP cd x 0 → Goes p e below E (T.setTop (mkF m pcy ls st))) (KN : ¬ cP cd x 0 → Goes p e below E (T.setTop (mkF m pc' ls st))) : Goes p e below E (T.setTop (mkF m pc ls (.int x :: st))) := by
  subst hpc
  by_cases q : cP cd x 0
  · exact (KY q).back fun _ r => XS.ifYes W.here W.hx rfl (pc0 := pc) (pc' := pcy) rfl (hb W.hby hd) rfl ((if0 _ _).trans (cP_yes q)) (by omega) (by omega) r
  · exact (KN q).back fun _ r => XS.ifNo W.here W.hx rfl (hb W.hby hd) rfl ((if0 _ _).trans (cP_no q)) r
theorem g_icmp (W : Wk Z y bytes ml ret n0 p l e R s m args below meth c T kc ks) {cd : ClassFile.Cond} {x y0 : Int32} {o : Int} {pcy : Nat} (hd : decode bytes pc = .ok (.if_icmp cd o, 3)) (hy : (pc : Int) + o = (pcy : Nat)) (hpc : pc + 3 = pc') (KY : cP cd x y0 → Goes p e below E (T.setTop (mkF m pcy ls st))) (KN : ¬ cP cd x y0 → Goes p e below E (T.setTop (mkF m pc' ls st))) : Goes p e below E (T.setTop (mkF m pc ls (.int y0 :: .int x :: st))) := by
  subst hpc
  by_cases q : cP cd x y0
  · exact (KY q).back fun _ r => XS.icmpYes W.here W.hx rfl (pc0 := pc) (pc' := pcy) rfl (hb W.hby hd) rfl (cP_yes q) (by omega) (by omega) r
  · exact (KN q).back fun _ r => XS.icmpNo W.here W.hx rfl (hb W.hby hd) rfl (cP_no q) r

theorem Wk.more (W : Wk Z y bytes ml ret n0 p l e R s m args below meth c T kc ks) {kc' ks' : Nat} (h1 : kc ≤ kc') (h2 : ks ≤ ks') : Wk Z y bytes ml ret n0 p l e R s m args below meth c T kc' ks' := by
  obtain ⟨A, locs, X, N⟩ := W
  exact ⟨A, locs, X.more h1 h2, N⟩
theorem cmpL_self (x : Int64) : XT.cmpL x x = 0 := by
  show (if x < x then (1 : Int32) else if x = x then 0 else -1) = 0
  rw [if_neg (fun q => by rw [Int64.lt_iff_toInt_lt] at q; omega), if_pos rfl]
/-! ### the ends -/
theorem g_leave (W : Wk Z y bytes ml ret n0 p l e R s m args below meth c T kc ks) {v : Option Value} {U : State} (hv : ret = none → v = none) (hQ : Q v T.heap) (hk : kc ≤ k) (hj : ks ≤ j)
    (st : ∀ fs, (∀ (f : JFrame) (acts : List Action), f.method = m → f.locked = none → f.entered = [] → (doReturn e (T.setTop f) acts v).1 = T.setFrames fs) → Steps p.tables e below U (T.setFrames fs)) : Goes p e below (En s n0 k j Q) U := by
  have hlk := W.hlk
  have hret := W.hret
  obtain ⟨_, locs, X, N⟩ := W
  obtain ⟨fs, hr, hrun, hended, hW, hsame⟩ := X.leave (v := v) (fun q => hv (hret ▸ q)) hlk
  exact ⟨_, v, locs, st fs hr, hrun, hended, ⟨N, hQ⟩, ⟨_, rfl⟩, hW, hsame.mono hk hj⟩
theorem g_return (W : Wk Z y bytes ml none n0 p l e R s m args below meth c T kc ks) (hd : decode bytes pc = .ok (.return_, 1)) (hQ : Q none T.heap) (hk : kc ≤ k) (hj : ks ≤ j) : Goes p e below (En s n0 k j Q) (T.setTop (mkF m pc ls [])) :=
  g_leave W (fun _ => rfl) hQ hk hj fun fs hr => by
    have hret := W.hret
    have hx := W.hx
    have hby := W.hby
    obtain ⟨_, locs, X, N⟩ := W
    exact X.returnOut hx hret (hb hby hd) hr
theorem g_ret {t : FieldType} (W : Wk Z y bytes ml (some t) n0 p l e R s m args below meth c T kc ks) {w : Value} {i : Instr} (hn : narrow t w = w)
    (hi : (i = .ireturn ∧ (t = .int ∨ t = .boolean ∨ t = .byte ∨ t = .char ∨ t = .short) ∧ ∃ z, w = .int z) ∨ (i = .lreturn ∧ t = .long ∧ ∃ z, w = .long z) ∨ (i = .dreturn ∧ t = .double ∧ ∃ z, w = .double z) ∨ (i = .freturn ∧ t = .float ∧ ∃ z, w = .float z) ∨ (i = .areturn ∧ t.isReference = true ∧ w.isRef = true))
    (hd : decode bytes pc = .ok (i, 1)) (hQ : Q (some w) T.heap) (hk : kc ≤ k) (hj : ks ≤ j) : Goes p e below (En s n0 k j Q) (T.setTop (mkF m pc ls (w :: st))) :=
  g_leave W (fun q => nomatch q) hQ hk hj fun fs hr => by
    have hret := W.hret
    have hx := W.hx
    have hby := W.hby
    obtain ⟨_, locs, X, N⟩ := W
    exact retOut X hx hret hn hi (hb hby hd) hr
theorem g_ireturn (W : Wk Z y bytes ml (some .int) n0 p l e R s m args below meth c T kc ks) {x : Int32} (hd : decode bytes pc = .ok (.ireturn, 1)) (hQ : Q (some (.int x)) T.heap) (hk : kc ≤ k) (hj : ks ≤ j) : Goes p e below (En s n0 k j Q) (T.setTop (mkF m pc ls (.int x :: st))) :=
  g_ret W rfl (Or.inl ⟨rfl, Or.inl rfl, _, rfl⟩) hd hQ hk hj
theorem g_zreturn (W : Wk Z y bytes ml (some .boolean) n0 p l e R s m args below meth c T kc ks) {x : Int32} (h01 : x &&& 1 = x) (hd : decode bytes pc = .ok (.ireturn, 1)) (hQ : Q (some (.int x)) T.heap) (hk : kc ≤ k) (hj : ks ≤ j) : Goes p e below (En s n0 k j Q) (T.setTop (mkF m pc ls (.int x :: st))) :=
  g_ret W (by show Value.int (x &&& 1) = _; rw [h01]) (Or.inl ⟨rfl, Or.inr (Or.inl rfl), _, rfl⟩) hd hQ hk hj
theorem g_areturn {t : FieldType} (W : Wk Z y bytes ml (some t) n0 p l e R s m args below meth c T kc ks) {v : Value} (ht : t.isReference = true) (hr : v.isRef = true) (hd : decode bytes pc = .ok (.areturn, 1)) (hQ : Q (some v) T.heap) (hk : kc ≤ k) (hj : ks ≤ j) : Goes p e below (En s n0 k j Q) (T.setTop (mkF m pc ls (v :: st))) :=
  g_ret W (by cases t <;> first | (cases ht; done) | rfl) (Or.inr (Or.inr (Or.inr (Or.inr ⟨rfl, ht, hr⟩)))) hd hQ hk hj
theorem g_lreturn (W : Wk Z y bytes ml (some .long) n0 p l e R s m args below meth c T kc ks) {x : Int64} (hd : decode bytes pc = .ok (.lreturn, 1)) (hQ : Q (some (.long x)) T.heap) (hk : kc ≤ k) (hj : ks ≤ j) : Goes p e below (En s n0 k j Q) (T.setTop (mkF m pc ls (.long x :: st))) :=
  g_ret W rfl (Or.inr (Or.inl ⟨rfl, rfl, _, rfl⟩)) hd hQ hk hj
theorem g_dreturn (W : Wk Z y bytes ml (some .double) n0 p l e R s m args below meth c T kc ks) {x : UInt64} (hd : decode bytes pc = .ok (.dreturn, 1)) (hQ : Q (some (.double x)) T.heap) (hk : kc ≤ k) (hj : ks ≤ j) : Goes p e below (En s n0 k j Q) (T.setTop (mkF m pc ls (.double x :: st))) :=
  g_ret W rfl (Or.inr (Or.inr (Or.inl ⟨rfl, rfl, _, rfl⟩))) hd hQ hk hj
/-! ### the head of a body -/
theorem con_of {ws : List Cond} {rm : Room} {as : Array Value} {h0 : Heap} {Post : Option Value → Heap → Prop} (hpn : plainFor y = true)
    (body : ∀ (p : Program) (e : Env) (s : State) (m : MethodId) (below : List Frame) (meth : Method) (c : Code) (T : State), Wk Z y bytes ml ret n0 p l e rm s m as below meth c T 0 0 → T.heap = h0 → Goes p e below (En s n0 rm.cells rm.slots Post) (T.setTop (entryFrame m as ml))) :
    Con l Z n0 y ws bytes ml ret rm as h0 Post := by
  refine MetFree.of_bodySF hpn hisR ?_
  intro p e s m args below meth c s₁ Bd hml0 hP hK
  obtain ⟨rfl, hZ, hh⟩ := hP
  obtain ⟨s₂, v, L, g1, g2, g3, g4, g5⟩ := body p e s m below meth c s₁ ⟨⟨Bd.exec, hZ, findClass_of_methodNamed Bd.named, Bd.bytes, hml0, Bd.returns, Bd.notSynchronized, (name_of_methodNamed Bd.named Bd.method).1⟩, [], Stand.of_body Bd, Fr.nil n0⟩ (by rw [← hh, Bd.state]; rfl)
  exact ⟨s₂, _, g1, g2, g3, v, L, rfl, g4, g5⟩
theorem g_cast {g g' : JFrame} (q : g = g') (K : Goes p e below E (T.setTop g')) : Goes p e below E (T.setTop g) := q ▸ K
/-! ### constants of the pool -/
theorem g_ldcInt (W : Wk Z y bytes ml ret n0 p l e R s m args below meth c T kc ks) {ix : Nat} {v : Int32} (w : (Cond.constant y.cls ix v).before a0 Z = true) (hd : decode bytes pc = .ok (.ldc ix, 2)) (hpc : pc + 2 = pc') (K : Goes p e below E (T.setTop (mkF m pc' ls (.int v :: st)))) : Goes p e below E (T.setTop (mkF m pc ls st)) := by
  subst hpc
  have hx := W.hx; have hby := W.hby; have hown := W.hown; have hZ := W.hZ
  obtain ⟨_, locs, X, N⟩ := W
  exact K.back fun _ r => X.ldcInt hx hown (mvT hZ w) (g := mkF m pc ls st) rfl (hb hby hd) _ r
theorem g_ldc2Long (W : Wk Z y bytes ml ret n0 p l e R s m args below meth c T kc ks) {ix : Nat} {v : Int64} (w : (Cond.constantLong y.cls ix v).before a0 Z = true) (hd : decode bytes pc = .ok (.ldc2_w ix, 3)) (hpc : pc + 3 = pc') (K : Goes p e below E (T.setTop (mkF m pc' ls (.long v :: st)))) : Goes p e below E (T.setTop (mkF m pc ls st)) := by
  subst hpc
  have hx := W.hx; have hby := W.hby; have hown := W.hown; have hZ := W.hZ
  obtain ⟨_, locs, X, N⟩ := W
  exact K.back fun _ r => X.ldc2Long hx hown (mvT hZ w) (g := mkF m pc ls st) rfl (hb hby hd) _ r
theorem g_ldc2Double (W : Wk Z y bytes ml ret n0 p l e R s m args below meth c T kc ks) {ix : Nat} {v : UInt64} (w : (Cond.constantDouble y.cls ix v).before a0 Z = true) (hd : decode bytes pc = .ok (.ldc2_w ix, 3)) (hpc : pc + 3 = pc') (K : Goes p e below E (T.setTop (mkF m pc' ls (.double v :: st)))) : Goes p e below E (T.setTop (mkF m pc ls st)) := by
  subst hpc
  have hx := W.hx; have hby := W.hby; have hown := W.hown; have hZ := W.hZ
  obtain ⟨_, locs, X, N⟩ := W
  exact K.back fun _ r => X.ldc2DoubleC hx hown (mvT hZ w) (g := mkF m pc ls st) rfl (hb hby hd) _ r
theorem g_ldcFloat (W : Wk Z y bytes ml ret n0 p l e R s m args below meth c T kc ks) {ix : Nat} {v : UInt32} (w : (Cond.constantFloat y.cls ix v).before a0 Z = true) (hd : decode bytes pc = .ok (.ldc ix, 2)) (hpc : pc + 2 = pc') (K : Goes p e below E (T.setTop (mkF m pc' ls (.float v :: st)))) : Goes p e below E (T.setTop (mkF m pc ls st)) := by
  subst hpc
  have hx := W.hx; have hby := W.hby; have hown := W.hown; have hZ := W.hZ
  obtain ⟨_, locs, X, N⟩ := W
  exact K.back fun _ r => X.ldcFloatC hx hown (mvT hZ w) (g := mkF m pc ls st) rfl (hb hby hd) _ r
/-! ### the heap: a list of places, each with what its cell is -/
abbrev HRow := Addr × (Cell → Prop)
/-- what was there at the start Z is as it was -/
def Bs (Z : State) (n0 : Nat) (h : Heap) : Prop := n0 ≤ h.size ∧ Z.heap.size ≤ n0 ∧ Ext Z.heap h
def Hp (Z : State) (n0 : Nat) (h : Heap) (L : List HRow) : Prop := Bs Z n0 h ∧ (L.map (·.1)).Nodup ∧ ∀ r ∈ L, n0 ≤ r.1 ∧ ∃ c : Cell, h[r.1]? = some c ∧ r.2 c
abbrev FR := String × String × String × Value
def FldC (Z : State) (f : FR) (c : Cell) : Prop := ∃ (cf : ClassId) (k : Class) (i : Nat) (fd : Field), Z.fieldFound? f.1 f.2.1 f.2.2.1 = some (cf, k, i, fd) ∧ fd.isStatic = false ∧ Z.vm.assignable c.cls cf = true ∧ c.slots[fd.slot]? = some f.2.2.2
def ObC (Z : State) (C : String) (fs : List FR) (c : Cell) : Prop :=
  (∃ k : Class, Z.vm.findClass C = some c.cls ∧ Z.vm.classes[c.cls]? = some k ∧ (k.kind = .ordinary → c.slots.size = k.instanceTypes.size)) ∧ c.vm ≠ .unknown ∧ c.vm.isStatics = false ∧ (∀ f ∈ fs, FldC Z f c) ∧ (fs.map fun f => RoadKit.slotOf Z f.1 f.2.1 f.2.2.1).Nodup
def ArC (Z : State) (ty : FieldType) (vs : List Value) (c : Cell) : Prop := Z.isArrayOf c ty ∧ c.vm ≠ .unknown ∧ c.slots = vs.toArray ∧ vs.length < 2 ^ 31
section Heap
variable {h h' : Heap} {L : List HRow} {a : Addr} {P P' : Cell → Prop} {cell : Cell} {i jx : Nat} {C O n d R0 : String} {fs : List FR} {v w : Value} {vs : List Value} {ty : FieldType}
theorem Bs.start : Bs Z Z.heap.size Z.heap := ⟨Nat.le_refl _, Nat.le_refl _, Nat.le_refl _, fun _ _ q => q⟩
theorem Bs.ext (q : Bs Z n0 h) (E : Ext h h') : Bs Z n0 h' := ⟨Nat.le_trans q.1 E.1, q.2.1, Nat.le_trans q.2.2.1 E.1, fun a c r => E.2 a c (q.2.2.2 a c r)⟩
theorem Bs.put (q : Bs Z n0 h) (ha : n0 ≤ a) (c' : Cell) : Bs Z n0 (h.setIfInBounds a c') := by
  refine ⟨by simpa using q.1, q.2.1, by simpa using q.2.2.1, fun x c r => ?_⟩
  have hx := (Array.getElem?_eq_some_iff.mp r).1
  have := q.2.1
  rw [Array.getElem?_setIfInBounds_ne (by omega)]; exact q.2.2.2 x c r
theorem Hp.nil (q : Bs Z n0 h) : Hp Z n0 h [] := ⟨q, List.nodup_nil, fun _ r => nomatch r⟩
theorem Hp.get (H : Hp Z n0 h L) (hi : L[i]? = some (a, P)) : n0 ≤ a ∧ ∃ c : Cell, h[a]? = some c ∧ P c := H.2.2 (a, P) (List.mem_of_getElem? hi)
theorem map_set_same {α β : Type} (f : α → β) : ∀ (L : List α) (i : Nat) (x x' : α), L[i]? = some x → f x' = f x → (L.set i x').map f = L.map f
  | [], _, _, _, h, _ => by simp at h
  | z :: L, 0, x, x', h, e => by simp at h; subst h; simp [e]
  | z :: L, i + 1, x, x', h, e => by simp at h; simp [map_set_same f L i x x' h e]
theorem nodup_inj {α : Type} {l : List α} (h : l.Nodup) {i j : Nat} {x : α} (hi : l[i]? = some x) (hj : l[j]? = some x) : i = j := (List.getElem?_inj (List.getElem?_eq_some_iff.mp hi).1 h).mp (hi.trans hj.symm)
theorem erase_perm {α : Type} : ∀ (L : List α) (i : Nat) (x : α), L[i]? = some x → L.Perm (x :: L.eraseIdx i)
  | [], _, _, h => by simp at h
  | z :: L, 0, x, h => by simp at h; subst h; exact List.Perm.refl _
  | z :: L, i + 1, x, h => by
    simp at h
    exact ((erase_perm L i x h).cons z).trans (List.Perm.swap x z _)
theorem Hp.put (H : Hp Z n0 h L) (hi : L[i]? = some (a, P)) {c' : Cell} (hP : P' c') : Hp Z n0 (h.setIfInBounds a c') (L.set i (a, P')) := by
  obtain ⟨h1, h2, h3⟩ := H
  obtain ⟨q1, c0, q2, -⟩ := Hp.get ⟨h1, h2, h3⟩ hi
  have hlt := (Array.getElem?_eq_some_iff.mp q2).1
  refine ⟨h1.put q1 c', by rw [map_set_same (·.1) L i (a, P) (a, P') hi rfl]; exact h2, fun r hr => ?_⟩
  obtain ⟨jj, hj, hjr⟩ := List.mem_iff_getElem.mp hr
  have hjL : jj < L.length := by simpa using hj
  by_cases e : jj = i
  · subst e
    rw [List.getElem_set_self] at hjr
    subst hjr
    exact ⟨q1, c', by simp [hlt], hP⟩
  · rw [List.getElem_set_ne (Ne.symm e)] at hjr
    have hm : r ∈ L := hjr ▸ List.getElem_mem hjL
    obtain ⟨g1, c1, g2, g3⟩ := h3 r hm
    refine ⟨g1, c1, ?_, g3⟩
    have hne : a ≠ r.1 := fun q => by
      have e1 : (L.map (·.1))[i]? = some a := by rw [List.getElem?_map, hi]; rfl
      have e2 : (L.map (·.1))[jj]? = some a := by rw [List.getElem?_map, List.getElem?_eq_getElem hjL, hjr, q]; rfl
      exact e (nodup_inj h2 e2 e1)
    rw [Array.getElem?_setIfInBounds_ne hne]; exact g2
theorem Hp.push (H : Hp Z n0 h L) (E : Ext h h') {c : Cell} (hc : h'[h.size]? = some c) (hP : P c) : Hp Z n0 h' ((h.size, P) :: L) := by
  refine ⟨H.1.ext E, ?_, fun r hr => ?_⟩
  · rw [List.map_cons, List.nodup_cons]
    refine ⟨fun q => ?_, H.2.1⟩
    obtain ⟨r, hr, e⟩ := List.mem_map.mp q
    obtain ⟨-, c1, g2, -⟩ := H.2.2 r hr
    have := (Array.getElem?_eq_some_iff.mp g2).1
    have e' : r.1 = h.size := e
    rw [e'] at this; exact Nat.lt_irrefl _ this
  · rcases List.mem_cons.mp hr with rfl | hr
    · exact ⟨H.1.1, c, hc, hP⟩
    · obtain ⟨g1, c1, g2, g3⟩ := H.2.2 r hr
      exact ⟨g1, c1, E.2 _ _ g2, g3⟩
theorem Hp.perm {L' : List HRow} (H : Hp Z n0 h L) (q : L.Perm L') : Hp Z n0 h L' := ⟨H.1, (q.map _).nodup_iff.mp H.2.1, fun r hr => H.2.2 r (q.mem_iff.mpr hr)⟩
theorem Hp.front {r : HRow} (H : Hp Z n0 h L) (hi : L[i]? = some r) {L' : List HRow} (hL : r :: L.eraseIdx i = L') : Hp Z n0 h L' := by
  subst hL
  exact H.perm (erase_perm L i r hi)
theorem Hp.imp (H : Hp Z n0 h L) (hi : L[i]? = some (a, P)) (q : ∀ c, P c → P' c) : Hp Z n0 h (L.set i (a, P')) := by
  obtain ⟨q1, c0, q2, q3⟩ := H.get hi
  have := H.put hi (q c0 q3)
  have e : h.setIfInBounds a c0 = h := by
    apply Array.ext_getElem?; intro x
    by_cases z : a = x
    · subst z; simp [(Array.getElem?_eq_some_iff.mp q2).1, ← q2]
    · rw [Array.getElem?_setIfInBounds_ne z]
  rw [e] at this; exact this
theorem Hp.tail {r : HRow} (H : Hp Z n0 h (r :: L)) : Hp Z n0 h L := ⟨H.1, (List.nodup_cons.mp H.2.1).2, fun x hx => H.2.2 x (List.mem_cons_of_mem _ hx)⟩
theorem Hp.ne (H : Hp Z n0 h L) {b : Addr} (hi : L[i]? = some (a, P)) (hj : L[jx]? = some (b, P')) (hne : i ≠ jx) : a ≠ b := fun q => by
  have e1 : (L.map (·.1))[i]? = some a := by rw [List.getElem?_map, hi]; rfl
  have e2 : (L.map (·.1))[jx]? = some a := by rw [List.getElem?_map, hj, q]; rfl
  exact hne (nodup_inj H.2.1 e1 e2)
theorem FldC.fld {f : FR} (F : FldC Z f cell) (hc : h[a]? = some cell) (hu : cell.vm ≠ .unknown) (hst : cell.vm.isStatics = false) : Fld Z h a f.1 f.2.1 f.2.2.1 f.2.2.2 := by
  obtain ⟨cf, k, i, fd, h1, h2, h3, h4⟩ := F
  exact ⟨cell, cf, k, i, fd, hc, h1, h2, hu, hst, h3, h4⟩
theorem ObC.exa (F : ObC Z C fs cell) (hc : h[a]? = some cell) : Exa Z h a C := by
  obtain ⟨⟨k, h1, h2, h3⟩, h4, h5, -⟩ := F
  exact ⟨cell, k, hc, h1, h2, h5, h3⟩
theorem ObC.put (F : ObC Z C fs cell) (hj : fs[jx]? = some (O, n, d, v)) : ObC Z C (fs.set jx (O, n, d, w)) (cell.setSlot (RoadKit.slotOf Z O n d) w) := by
  obtain ⟨⟨k, h1, h2, h3⟩, h4, h5, h6, h7⟩ := F
  refine ⟨⟨k, h1, h2, fun q => by rw [sz_set]; exact h3 q⟩, h4, h5, fun f hf => ?_, by rw [map_set_same (fun f : FR => RoadKit.slotOf Z f.1 f.2.1 f.2.2.1) fs jx (O, n, d, v) (O, n, d, w) hj rfl]; exact h7⟩
  obtain ⟨hjL, hjE⟩ := List.getElem?_eq_some_iff.mp hj
  obtain ⟨ii, hi, hie⟩ := List.mem_iff_getElem.mp hf
  have hiL : ii < fs.length := by simpa using hi
  by_cases e : ii = jx
  · subst e
    rw [List.getElem_set_self] at hie
    subst hie
    obtain ⟨cf, kf, i, fd, g1, g2, g3, g4⟩ := h6 _ (hjE ▸ List.getElem_mem hjL)
    refine ⟨cf, kf, i, fd, g1, g2, g3, ?_⟩
    have es : RoadKit.slotOf Z O n d = fd.slot := by simp only [RoadKit.slotOf]; rw [show Z.fieldFound? O n d = _ from g1]; rfl
    have hlt := (Array.getElem?_eq_some_iff.mp g4).1
    simp [Cell.setSlot, es, hlt]
  · rw [List.getElem_set_ne (Ne.symm e)] at hie
    have hm : f ∈ fs := hie ▸ List.getElem_mem hiL
    obtain ⟨cf, kf, i, fd, g1, g2, g3, g4⟩ := h6 f hm
    refine ⟨cf, kf, i, fd, g1, g2, g3, ?_⟩
    have es : RoadKit.slotOf Z f.1 f.2.1 f.2.2.1 = fd.slot := by simp only [RoadKit.slotOf]; rw [g1]; rfl
    have hne : RoadKit.slotOf Z O n d ≠ fd.slot := fun q => by
      have e1 : (fs.map fun f => RoadKit.slotOf Z f.1 f.2.1 f.2.2.1)[jx]? = some fd.slot := by rw [List.getElem?_map, hj, ← q]; rfl
      have e2 : (fs.map fun f => RoadKit.slotOf Z f.1 f.2.1 f.2.2.1)[ii]? = some fd.slot := by rw [List.getElem?_map, List.getElem?_eq_getElem hiL, hie, ← es]; rfl
      exact e (nodup_inj h7 e2 e1)
    show (cell.slots.setIfInBounds _ w)[fd.slot]? = _
    rw [Array.getElem?_setIfInBounds_ne hne]; exact g4
/-- what a class's layout words give: each field laid, its first value, the names apart -/
def LaidAll (Z : State) (a0 : Array Value) (C : String) (fs : List FR) : Prop := ∀ f ∈ fs, Laid Z a0 C f.1 f.2.1 f.2.2.1 ∧ ∃ t, parseFieldDescriptor f.2.2.1 = some t ∧ f.2.2.2 = defaultValue t
theorem LaidAll.nil : LaidAll Z a0 C [] := fun _ q => nomatch q
theorem LaidAll.cons {t : FieldType} (q : Laid Z a0 C O n d) (ht : parseFieldDescriptor d = some t) (hv : v = defaultValue t) (r : LaidAll Z a0 C fs) : LaidAll Z a0 C ((O, n, d, v) :: fs) := fun f hf => by
  rcases List.mem_cons.mp hf with rfl | hf
  · exact ⟨q, t, ht, hv⟩
  · exact r f hf
theorem LaidAll.slots (H : LaidAll Z a0 C fs) (q : (fs.map (·.2.1)).Nodup) : (fs.map fun f => RoadKit.slotOf Z f.1 f.2.1 f.2.2.1).Nodup := by
  induction fs with
  | nil => exact List.nodup_nil
  | cons f fs ih =>
    rw [List.map_cons, List.nodup_cons] at q ⊢
    refine ⟨fun z => ?_, ih (fun x hx => H x (List.mem_cons_of_mem _ hx)) q.2⟩
    obtain ⟨g, hg, e⟩ := List.mem_map.mp z
    obtain ⟨L1, t1, p1, -⟩ := H f (List.mem_cons_self ..)
    obtain ⟨L2, t2, p2, -⟩ := H g (List.mem_cons_of_mem _ hg)
    exact slot_ne L2 L1 (fun u => q.1 (List.mem_map.mpr ⟨g, hg, u⟩)) p2 p1 e
/-! ### the steps that read or write it -/
theorem g_getf (W : Wk Z y bytes ml ret n0 p l e R s m args below meth c T kc ks) {ix : Nat} (w : (Cond.fieldLink y.cls ix R0 n d).before a0 Z = true) (via : Via Z R0 O n d) (H : Hp Z n0 T.heap L) (hi : L[i]? = some (a, ObC Z C fs)) (hj : fs[jx]? = some (O, n, d, v)) (hd : decode bytes pc = .ok (.getfield ix, 3)) (hpc : pc + 3 = pc')
    (K : ∀ T', Wk Z y bytes ml ret n0 p l e R s m args below meth c T' kc ks → Hp Z n0 T'.heap L → Goes p e below E (T'.setTop (mkF m pc' ls (v :: st)))) : Goes p e below E (T.setTop (mkF m pc ls (.ref a :: st))) := by
  subst hpc
  have hx := W.hx; have hby := W.hby; have hown := W.hown; have hZ := W.hZ
  obtain ⟨A, locs, X, N⟩ := W
  obtain ⟨-, cl, q1, q2⟩ := H.get hi
  have F := (q2.2.2.2.1 _ (List.mem_of_getElem? hj)).fld q1 q2.2.1 q2.2.2.1
  obtain ⟨T', X', e', st'⟩ := getF X hx hZ hown (host := "") (Or.inl w) via rfl F (g := mkF m pc ls (.ref a :: st)) rfl rfl (hb hby hd)
  exact (K T' ⟨A, locs, X', N⟩ (e' ▸ H)).back st'
theorem g_putf (W : Wk Z y bytes ml ret n0 p l e R s m args below meth c T kc ks) {ix kk : Nat} (wd : (Cond.fieldLink y.cls ix R0 n d).before a0 Z = true) (via : Via Z R0 O n d) (wl : (Cond.lays C O n d).before a0 Z = true ∨ ((Cond.laysFinal C O n d).before a0 Z = true ∧ y.cls = O ∧ y.name = "<init>")) (wi : (Cond.instantiable C kk).before a0 Z = true) (hty : parseFieldDescriptor d = some ty) (hn : narrow ty w = w) (hf : fits ty w = true)
    (H : Hp Z n0 T.heap L) (hi : L[i]? = some (a, ObC Z C fs)) (hj : fs[jx]? = some (O, n, d, v)) (hd : decode bytes pc = .ok (.putfield ix, 3)) (hpc : pc + 3 = pc') {L' : List HRow} (hL : L.set i (a, ObC Z C (fs.set jx (O, n, d, w))) = L')
    (K : ∀ T', Wk Z y bytes ml ret n0 p l e R s m args below meth c T' kc ks → Hp Z n0 T'.heap L' → Goes p e below E (T'.setTop (mkF m pc' ls st))) : Goes p e below E (T.setTop (mkF m pc ls (w :: .ref a :: st))) := by
  subst hpc hL
  have hx := W.hx; have hby := W.hby; have hown := W.hown; have hZ := W.hZ; have hnm := W.hnm
  obtain ⟨A, locs, X, N⟩ := W
  obtain ⟨hn0, cl, q1, q2⟩ := H.get hi
  have F := (q2.2.2.2.1 _ (List.mem_of_getElem? hj)).fld q1 q2.2.1 q2.2.2.1
  obtain ⟨T', h', X', e', Wr', st'⟩ := putF X hx hZ hown (host := "") (Or.inl wd) via rfl F (q2.exa q1) (wl.imp id fun q => ⟨q.1, q.2.1, hnm.trans q.2.2⟩) wi hty hn hf (g := mkF m pc ls (w :: .ref a :: st)) rfl rfl (hb hby hd)
  obtain ⟨cl', g1, -, -, rfl⟩ := Wr'
  cases q1.symm.trans g1
  exact (K T' ⟨A, _, X', Fr.snoc X' N hn0⟩ (by rw [e']; exact H.put hi (q2.put hj))).back st'
theorem g_new (W : Wk Z y bytes ml ret n0 p l e R s m args below meth c T kc ks) {ix nn : Nat} (w : (Cond.classLink y.cls ix C).before a0 Z = true) (wi : (Cond.instantiable C nn).before a0 Z = true) (wz : (Cond.initialized C).before a0 Z = true) (la : LaidAll Z a0 C fs) (nd : (fs.map (·.2.1)).Nodup) (H : Hp Z n0 T.heap L) (hd : decode bytes pc = .ok (.new ix, 3)) (hpc : pc + 3 = pc')
    {kc' ks' : Nat} (hkc : kc + 1 = kc') (hks : ks + nn = ks') (hc : kc' ≤ R.cells) (hl : ks' ≤ R.slots)
    (K : ∀ T' a, Wk Z y bytes ml ret n0 p l e R s m args below meth c T' kc' ks' → Hp Z n0 T'.heap ((a, ObC Z C fs) :: L) → Goes p e below E (T'.setTop (mkF m pc' ls (.ref a :: st)))) : Goes p e below E (T.setTop (mkF m pc ls st)) := by
  subst hpc hkc hks
  have hx := W.hx; have hby := W.hby; have hown := W.hown; have hZ := W.hZ
  obtain ⟨A, locs, X, N⟩ := W
  obtain ⟨T', h', X', e', E', X1, D, ⟨cell, hcell, hvm, -⟩, st'⟩ := newO X hx hZ hown w wi wz rfl (g := mkF m pc ls st) rfl (hb hby hd) hc hl
  have hob : ObC Z C fs cell := by
    obtain ⟨cell', k', g1, g2, g3, g4, g5⟩ := X1
    cases hcell.symm.trans g1
    refine ⟨⟨k', g2, g3, g5⟩, by rw [hvm]; simp, g4, fun f hf => ?_, la.slots nd⟩
    obtain ⟨Lf, t, ht, hv⟩ := la f hf
    obtain ⟨c2, cf, kf, ii, fd, r1, r2, r3, -, -, r6, r7⟩ := D Lf ht
    cases hcell.symm.trans r1
    exact ⟨cf, kf, ii, fd, r2, r3, r6, by rw [hv]; exact r7⟩
  exact (K T' T.heap.size ⟨A, locs, X', N⟩ (by rw [e']; exact H.push E' hcell hob)).back st'
theorem g_initO (W : Wk Z y bytes ml ret n0 p l e R s m args below meth c T kc ks) {ix : Nat} (w1 : (Cond.methodLink y.cls ix Lib.objectInit).before a0 Z = true) (w2 : (Cond.instanceMethod Lib.objectInit).before a0 Z = true) (w3 : (Cond.code Lib.objectInit ⟨#[0xb1]⟩ 1 none).before a0 Z = true) (H : Hp Z n0 T.heap L) (hls : ls.size = ml) (hd : decode bytes pc = .ok (.invokespecial ix, 3)) (hpc : pc + 3 = pc')
    (hf : 1 ≤ R.frames) {Wn : Nat} (hW : (st.map fun v => v.category).sum ≤ Wn) (hl : Wn + 12 ≤ R.locals)
    (K : ∀ T', Wk Z y bytes ml ret n0 p l e R s m args below meth c T' kc ks → Hp Z n0 T'.heap L → Goes p e below E (T'.setTop (mkF m pc' ls st))) : Goes p e below E (T.setTop (mkF m pc ls (.ref a :: st))) := by
  subst hpc
  have hx := W.hx; have hby := W.hby; have hown := W.hown; have hZ := W.hZ; have hml := W.hml
  obtain ⟨A, locs, X, N⟩ := W
  obtain ⟨T', X', e', st'⟩ := initO X hx hZ hown w1 w2 w3 rfl (g := mkF m pc ls (.ref a :: st)) rfl (by rw [hml]; exact hls) rfl (hb hby hd) hf (W := Wn) (by show 2 * 0 + _ ≤ _; omega) hl
  exact (K T' ⟨A, locs, X', N⟩ (e' ▸ H)).back st'
/-! ### arrays -/
theorem ArC.arr (F : ArC Z ty vs cell) (hc : h[a]? = some cell) : Arr Z h a cell ty := ⟨hc, F.1, F.2.1⟩
theorem idx_ok {x : Int32} (hx : x.toInt = (jx : Int)) (F : ArC Z ty vs cell) (hj : jx < vs.length) : ¬ (x < 0 ∨ cell.slots.size ≤ x.toNatClampNeg) := by
  rw [F.2.2.1]
  have e0 : (0 : Int32).toInt = 0 := rfl
  simp only [Int32.lt_iff_toInt_lt, Int32.toNatClampNeg, List.size_toArray, e0, hx]; omega
theorem idx_nat {x : Int32} (hx : x.toInt = (jx : Int)) : x.toNatClampNeg = jx := by simp only [Int32.toNatClampNeg, hx]; omega
theorem g_newarr (W : Wk Z y bytes ml ret n0 p l e R s m args below meth c T kc ks) {aty : ArrayType} (w : (Cond.arrayClass (newarray.typeOf aty)).before a0 Z = true) (H : Hp Z n0 T.heap L) {x : Int32} (hx0 : ¬ x < 0) (hvs : List.replicate x.toNatClampNeg (defaultValue (newarray.typeOf aty)) = vs) {cap : Nat} (hcap : vs.length ≤ cap) (hcb : cap * 8 ≤ 536870912) (hd : decode bytes pc = .ok (.newarray aty, 2)) (hpc : pc + 2 = pc')
    {kc' ks' : Nat} (hkc : kc + 1 = kc') (hks : ks + cap = ks') (hc : kc' ≤ R.cells) (hl : ks' ≤ R.slots)
    (K : ∀ T' a, Wk Z y bytes ml ret n0 p l e R s m args below meth c T' kc' ks' → Hp Z n0 T'.heap ((a, ArC Z (newarray.typeOf aty) vs) :: L) → Goes p e below E (T'.setTop (mkF m pc' ls (.ref a :: st)))) : Goes p e below E (T.setTop (mkF m pc ls (.int x :: st))) := by
  subst hpc hkc hks hvs
  have hx := W.hx; have hby := W.hby; have hZ := W.hZ
  obtain ⟨A, locs, X, N⟩ := W
  rw [List.length_replicate] at hcap
  obtain ⟨T', h', cA, X', e', E', A1, st'⟩ := newP X hx hZ w rfl (g := mkF m pc ls (.int x :: st)) rfl (hb hby hd) rfl hx0 hcap hcb hc hl
  have hl31 : (List.replicate x.toNatClampNeg (defaultValue (newarray.typeOf aty))).length < 2 ^ 31 := by rw [List.length_replicate]; omega
  exact (K T' T.heap.size ⟨A, locs, X', N⟩ (by rw [e']; exact H.push E' A1.1 ⟨A1.2.1, A1.2.2, by simp [newA], hl31⟩)).back st'
theorem g_arrlen (W : Wk Z y bytes ml ret n0 p l e R s m args below meth c T kc ks) (H : Hp Z n0 T.heap L) (hi : L[i]? = some (a, ArC Z ty vs)) {x : Int32} (hx : vs.length.toInt32 = x) (hd : decode bytes pc = .ok (.arraylength, 1)) (hpc : pc + 1 = pc') (K : Goes p e below E (T.setTop (mkF m pc' ls (.int x :: st)))) : Goes p e below E (T.setTop (mkF m pc ls (.ref a :: st))) := by
  subst hpc hx
  have hx := W.hx; have hby := W.hby; have hZ := W.hZ
  obtain ⟨A, locs, X, N⟩ := W
  obtain ⟨-, cl, q1, q2⟩ := H.get hi
  refine K.back fun t r => X.arraylength hx q1 (State.isArrayOf_alike hZ.alike q2.1) (g := mkF m pc ls (.ref a :: st)) rfl rfl (hb hby hd) t ?_
  have e : cl.slots.size = vs.length := by rw [q2.2.2.1]; simp
  rw [e]; exact r
theorem g_iaload (W : Wk Z y bytes ml ret n0 p l e R s m args below meth c T kc ks) (H : Hp Z n0 T.heap L) (hi : L[i]? = some (a, ArC Z .int vs)) {x : Int32} (hx : x.toInt = (jx : Int)) (hv : vs[jx]? = some v) (hd : decode bytes pc = .ok (.iaload, 1)) (hpc : pc + 1 = pc') (K : Goes p e below E (T.setTop (mkF m pc' ls (v :: st)))) : Goes p e below E (T.setTop (mkF m pc ls (.int x :: .ref a :: st))) := by
  subst hpc
  have hxx := W.hx; have hby := W.hby; have hZ := W.hZ
  obtain ⟨A, locs, X, N⟩ := W
  obtain ⟨-, cl, q1, q2⟩ := H.get hi
  exact K.back fun t r => X.iaload hxx q1 (State.isArrayOf_alike hZ.alike q2.1) q2.2.1 (idx_ok hx q2 (List.getElem?_eq_some_iff.mp hv).1) (by rw [idx_nat hx, q2.2.2.1]; simpa using hv) (g := mkF m pc ls (.int x :: .ref a :: st)) rfl rfl (hb hby hd) t r
theorem g_laload (W : Wk Z y bytes ml ret n0 p l e R s m args below meth c T kc ks) (H : Hp Z n0 T.heap L) (hi : L[i]? = some (a, ArC Z .long vs)) {x : Int32} (hx : x.toInt = (jx : Int)) (hv : vs[jx]? = some v) (hd : decode bytes pc = .ok (.laload, 1)) (hpc : pc + 1 = pc') (K : Goes p e below E (T.setTop (mkF m pc' ls (v :: st)))) : Goes p e below E (T.setTop (mkF m pc ls (.int x :: .ref a :: st))) := by
  subst hpc
  have hxx := W.hx; have hby := W.hby; have hZ := W.hZ
  obtain ⟨A, locs, X, N⟩ := W
  obtain ⟨-, cl, q1, q2⟩ := H.get hi
  exact K.back fun t r => X.laload hxx q1 (State.isArrayOf_alike hZ.alike q2.1) q2.2.1 (idx_ok hx q2 (List.getElem?_eq_some_iff.mp hv).1) (by rw [idx_nat hx, q2.2.2.1]; simpa using hv) (g := mkF m pc ls (.int x :: .ref a :: st)) rfl rfl (hb hby hd) t r
theorem g_daload (W : Wk Z y bytes ml ret n0 p l e R s m args below meth c T kc ks) (H : Hp Z n0 T.heap L) (hi : L[i]? = some (a, ArC Z .double vs)) {x : Int32} (hx : x.toInt = (jx : Int)) (hv : vs[jx]? = some v) (hd : decode bytes pc = .ok (.daload, 1)) (hpc : pc + 1 = pc') (K : Goes p e below E (T.setTop (mkF m pc' ls (v :: st)))) : Goes p e below E (T.setTop (mkF m pc ls (.int x :: .ref a :: st))) := by
  subst hpc
  have hxx := W.hx; have hby := W.hby; have hZ := W.hZ
  obtain ⟨A, locs, X, N⟩ := W
  obtain ⟨-, cl, q1, q2⟩ := H.get hi
  exact K.back fun t r => X.daload hxx q1 (State.isArrayOf_alike hZ.alike q2.1) q2.2.1 (idx_ok hx q2 (List.getElem?_eq_some_iff.mp hv).1) (by rw [idx_nat hx, q2.2.2.1]; simpa using hv) (g := mkF m pc ls (.int x :: .ref a :: st)) rfl rfl (hb hby hd) t r
theorem g_iastore (W : Wk Z y bytes ml ret n0 p l e R s m args below meth c T kc ks) (H : Hp Z n0 T.heap L) (hi : L[i]? = some (a, ArC Z .int vs)) {x : Int32} {u : Int32} (hx : x.toInt = (jx : Int)) (hj : jx < vs.length) (hd : decode bytes pc = .ok (.iastore, 1)) (hpc : pc + 1 = pc') {L' : List HRow} (hL : L.set i (a, ArC Z .int (vs.set jx (.int u))) = L')
    (K : ∀ T', Wk Z y bytes ml ret n0 p l e R s m args below meth c T' kc ks → Hp Z n0 T'.heap L' → Goes p e below E (T'.setTop (mkF m pc' ls st))) : Goes p e below E (T.setTop (mkF m pc ls (.int u :: .int x :: .ref a :: st))) := by
  subst hpc hL
  have hxx := W.hx; have hby := W.hby; have hZ := W.hZ
  obtain ⟨A, locs, X, N⟩ := W
  obtain ⟨hn0, cl, q1, q2⟩ := H.get hi
  obtain ⟨T', h', X', e', Wr', st'⟩ := stI X hxx hZ rfl (q2.arr q1) (idx_ok hx q2 hj) (g := mkF m pc ls (.int u :: .int x :: .ref a :: st)) rfl rfl (hb hby hd)
  obtain ⟨cl', g1, -, -, rfl⟩ := Wr'
  cases q1.symm.trans g1
  have hsl : (cl.setSlot x.toNatClampNeg (.int u)).slots = (vs.set jx (.int u)).toArray := by rw [idx_nat hx]; show cl.slots.setIfInBounds jx _ = _; rw [q2.2.2.1]; simp
  exact (K T' ⟨A, _, X', Fr.snoc X' N hn0⟩ (by rw [e']; exact H.put hi ⟨q2.1, q2.2.1, hsl, by rw [List.length_set]; exact q2.2.2.2⟩)).back st'
theorem g_lastore (W : Wk Z y bytes ml ret n0 p l e R s m args below meth c T kc ks) (H : Hp Z n0 T.heap L) (hi : L[i]? = some (a, ArC Z .long vs)) {x : Int32} {u : Int64} (hx : x.toInt = (jx : Int)) (hj : jx < vs.length) (hd : decode bytes pc = .ok (.lastore, 1)) (hpc : pc + 1 = pc') {L' : List HRow} (hL : L.set i (a, ArC Z .long (vs.set jx (.long u))) = L')
    (K : ∀ T', Wk Z y bytes ml ret n0 p l e R s m args below meth c T' kc ks → Hp Z n0 T'.heap L' → Goes p e below E (T'.setTop (mkF m pc' ls st))) : Goes p e below E (T.setTop (mkF m pc ls (.long u :: .int x :: .ref a :: st))) := by
  subst hpc hL
  have hxx := W.hx; have hby := W.hby; have hZ := W.hZ
  obtain ⟨A, locs, X, N⟩ := W
  obtain ⟨hn0, cl, q1, q2⟩ := H.get hi
  obtain ⟨T', h', X', e', Wr', st'⟩ := stJ X hxx hZ rfl (q2.arr q1) (idx_ok hx q2 hj) (g := mkF m pc ls (.long u :: .int x :: .ref a :: st)) rfl rfl (hb hby hd)
  obtain ⟨cl', g1, -, -, rfl⟩ := Wr'
  cases q1.symm.trans g1
  have hsl : (cl.setSlot x.toNatClampNeg (.long u)).slots = (vs.set jx (.long u)).toArray := by rw [idx_nat hx]; show cl.slots.setIfInBounds jx _ = _; rw [q2.2.2.1]; simp
  exact (K T' ⟨A, _, X', Fr.snoc X' N hn0⟩ (by rw [e']; exact H.put hi ⟨q2.1, q2.2.1, hsl, by rw [List.length_set]; exact q2.2.2.2⟩)).back st'
theorem g_dastore (W : Wk Z y bytes ml ret n0 p l e R s m args below meth c T kc ks) (H : Hp Z n0 T.heap L) (hi : L[i]? = some (a, ArC Z .double vs)) {x : Int32} {u : UInt64} (hx : x.toInt = (jx : Int)) (hj : jx < vs.length) (hd : decode bytes pc = .ok (.dastore, 1)) (hpc : pc + 1 = pc') {L' : List HRow} (hL : L.set i (a, ArC Z .double (vs.set jx (.double u))) = L')
    (K : ∀ T', Wk Z y bytes ml ret n0 p l e R s m args below meth c T' kc ks → Hp Z n0 T'.heap L' → Goes p e below E (T'.setTop (mkF m pc' ls st))) : Goes p e below E (T.setTop (mkF m pc ls (.double u :: .int x :: .ref a :: st))) := by
  subst hpc hL
  have hxx := W.hx; have hby := W.hby; have hZ := W.hZ
  obtain ⟨A, locs, X, N⟩ := W
  obtain ⟨hn0, cl, q1, q2⟩ := H.get hi
  obtain ⟨T', h', X', e', Wr', st'⟩ := stD X hxx hZ rfl (q2.arr q1) (idx_ok hx q2 hj) (g := mkF m pc ls (.double u :: .int x :: .ref a :: st)) rfl rfl (hb hby hd)
  obtain ⟨cl', g1, -, -, rfl⟩ := Wr'
  cases q1.symm.trans g1
  have hsl : (cl.setSlot x.toNatClampNeg (.double u)).slots = (vs.set jx (.double u)).toArray := by rw [idx_nat hx]; show cl.slots.setIfInBounds jx _ = _; rw [q2.2.2.1]; simp
  exact (K T' ⟨A, _, X', Fr.snoc X' N hn0⟩ (by rw [e']; exact H.put hi ⟨q2.1, q2.2.1, hsl, by rw [List.length_set]; exact q2.2.2.2⟩)).back st'
end Heap
/-! ### calls by contract -/
section Calls
variable {y' : MethodName} {bytes' : ByteArray} {ml' : Nat} {ret' : Option FieldType} {rm : Room} {Post : Option Value → Heap → Prop} {argsL stk : List Value} {ix : Nat} {Wn kc' ks' : Nat} {ps : List FieldType} {rt : Option FieldType}
theorem g_callS (W : Wk Z y bytes ml ret n0 p l e R s m args below meth c T kc ks) (w1 : (Cond.methodLink y.cls ix y').before a0 Z = true) (w2 : (Cond.static y').before a0 Z = true) (w3 : (Cond.initialized y'.cls).before a0 Z = true) (w4 : (Cond.code y' bytes' ml' ret').before a0 Z = true) (hy : y'.cls ≠ "java/lang/invoke/MethodHandle" ∧ y'.cls ≠ "java/lang/invoke/VarHandle")
    (con : Con l Z n0 y' [] bytes' ml' ret' rm argsL.toArray T.heap Post) (hpd : parseMethodDescriptor y'.desc = some ⟨ps, rt⟩) (hlen : argsL.length = ps.length) (hstk : stk = argsL.reverse ++ st) (hls : ls.size = ml) (hd : decode bytes pc = .ok (.invokestatic ix, 3)) (hpc : pc + 3 = pc')
    (hf : rm.frames + 1 ≤ R.frames) (hW : (st.map fun v => v.category).sum ≤ Wn) (hl : Wn + (ml' + 11) + rm.locals ≤ R.locals) (hkc : kc + rm.cells = kc') (hks : ks + rm.slots = ks') (hc : kc' ≤ R.cells) (hs : ks' ≤ R.slots)
    (K : ∀ T' v, Wk Z y bytes ml ret n0 p l e R s m args below meth c T' kc' ks' → Post v T'.heap → Goes p e below E (T'.setTop (mkF m pc' ls (v.toList ++ st)))) : Goes p e below E (T.setTop (mkF m pc ls stk)) := by
  subst hpc hkc hks hstk
  have hx := W.hx; have hby := W.hby; have hown := W.hown; have hZ := W.hZ; have hml := W.hml
  obtain ⟨A, locs, X, N⟩ := W
  obtain ⟨v, vm1, ⟨T', L', kk, jj⟩, -, X', ⟨Lc, ⟨hN, hQ⟩, l1, l2, l3⟩, st'⟩ := Jvm.LawKit.callS X hx hown (mvT hZ w1) (mvT hZ w2) (mvT hZ w3) (mvT hZ w4) hy (backOf (Q := fun v h L => Fr n0 L ∧ Post v h) (W := Wn) con hZ w4 w3 hf hl) (g := mkF m pc ls (argsL.reverse ++ st)) rfl (by rw [hml]; exact hls) (argsL := argsL) (rest := st) (lenOf hpd hlen) rfl (by show 2 * 0 + _ ≤ _; omega) (hb hby hd) (fun _ _ => ⟨rfl, rfl, hc, hs⟩)
  dsimp only [Pt.U, Pt.locs, Pt.cells, Pt.slots] at X' l1 l2 l3 hQ st'
  subst l1 l2 l3
  exact (K T' v ⟨A, _, X', N.app hN⟩ hQ).back st'
theorem g_callI (W : Wk Z y bytes ml ret n0 p l e R s m args below meth c T kc ks) (hin : y'.name = "<init>") (w1 : (Cond.methodLink y.cls ix y').before a0 Z = true) (w2 : (Cond.instanceMethod y').before a0 Z = true) (w3 : (Cond.initialized y'.cls).before a0 Z = true) (w4 : (Cond.code y' bytes' ml' none).before a0 Z = true) (hy : y'.cls ≠ "java/lang/invoke/MethodHandle" ∧ y'.cls ≠ "java/lang/invoke/VarHandle")
    {a : Addr} (con : Con l Z n0 y' [] bytes' ml' none rm (.ref a :: argsL).toArray T.heap Post) (hpd : parseMethodDescriptor y'.desc = some ⟨ps, rt⟩) (hlen : argsL.length = ps.length) (hstk : stk = argsL.reverse ++ .ref a :: st) (hls : ls.size = ml) (hd : decode bytes pc = .ok (.invokespecial ix, 3)) (hpc : pc + 3 = pc')
    (hf : rm.frames + 1 ≤ R.frames) (hW : (st.map fun v => v.category).sum ≤ Wn) (hl : Wn + (ml' + 11) + rm.locals ≤ R.locals) (hkc : kc + rm.cells = kc') (hks : ks + rm.slots = ks') (hc : kc' ≤ R.cells) (hs : ks' ≤ R.slots)
    (K : ∀ T' v, Wk Z y bytes ml ret n0 p l e R s m args below meth c T' kc' ks' → Post v T'.heap → Goes p e below E (T'.setTop (mkF m pc' ls (v.toList ++ st)))) : Goes p e below E (T.setTop (mkF m pc ls stk)) := by
  subst hpc hkc hks hstk
  have hx := W.hx; have hby := W.hby; have hown := W.hown; have hZ := W.hZ; have hml := W.hml
  obtain ⟨A, locs, X, N⟩ := W
  obtain ⟨v, vm1, ⟨T', L', kk, jj⟩, -, X', ⟨Lc, ⟨hN, hQ⟩, l1, l2, l3⟩, st'⟩ := X.specialBack hx (y := y') hin hown (mvT hZ w1) (mvT hZ w2) (mvT hZ w4) hy (backOf (Q := fun v h L => Fr n0 L ∧ Post v h) (W := Wn) con hZ w4 w3 hf hl) (g := mkF m pc ls (argsL.reverse ++ .ref a :: st)) rfl (by rw [hml]; exact hls) (Steps.refl _) (a := a) (argsL := argsL) (rest := st) (lenOf hpd hlen) rfl (by show 2 * 0 + _ ≤ _; omega) (hb hby hd) (fun _ _ => ⟨rfl, rfl, hc, hs⟩)
  dsimp only [Pt.U, Pt.locs, Pt.cells, Pt.slots] at X' l1 l2 l3 hQ st'
  subst l1 l2 l3
  exact (K T' v ⟨A, _, X', N.app hN⟩ hQ).back fun t r => st'.trans r
theorem g_callV (W : Wk Z y bytes ml ret n0 p l e R s m args below meth c T kc ks) {C : String} {fs : List FR} {L : List HRow} {i : Nat} (w1 : (Cond.methodLink y.cls ix y').before a0 Z = true) (w2 : (Cond.declares y').before a0 Z = true) (w3 : (Cond.selects C y' y').before a0 Z = true) (w4 : (Cond.instanceMethod y').before a0 Z = true) (w5 : (Cond.initialized y'.cls).before a0 Z = true) (w6 : (Cond.code y' bytes' ml' ret').before a0 Z = true) (hy : y'.cls ≠ "java/lang/invoke/MethodHandle" ∧ y'.cls ≠ "java/lang/invoke/VarHandle")
    {a : Addr} (H : Hp Z n0 T.heap L) (hi : L[i]? = some (a, ObC Z C fs)) (con : Con l Z n0 y' [] bytes' ml' ret' rm (.ref a :: argsL).toArray T.heap Post) (hpd : parseMethodDescriptor y'.desc = some ⟨ps, rt⟩) (hlen : argsL.length = ps.length) (hstk : stk = argsL.reverse ++ .ref a :: st) (hls : ls.size = ml) (hd : decode bytes pc = .ok (.invokevirtual ix, 3)) (hpc : pc + 3 = pc')
    (hf : rm.frames + 1 ≤ R.frames) (hW : (st.map fun v => v.category).sum ≤ Wn) (hl : Wn + (ml' + 11) + rm.locals ≤ R.locals) (hkc : kc + rm.cells = kc') (hks : ks + rm.slots = ks') (hc : kc' ≤ R.cells) (hs : ks' ≤ R.slots)
    (K : ∀ T' v, Wk Z y bytes ml ret n0 p l e R s m args below meth c T' kc' ks' → Post v T'.heap → Goes p e below E (T'.setTop (mkF m pc' ls (v.toList ++ st)))) : Goes p e below E (T.setTop (mkF m pc ls stk)) := by
  subst hpc hkc hks hstk
  have hx := W.hx; have hby := W.hby; have hown := W.hown; have hZ := W.hZ; have hml := W.hml
  obtain ⟨A, locs, X, N⟩ := W
  obtain ⟨-, cl, q1, q2⟩ := H.get hi
  obtain ⟨cB, kB, b1, b2, b3⟩ := isOf hZ rfl (q2.exa q1)
  obtain ⟨v, vm1, ⟨T', L', kk, jj⟩, -, X', ⟨Lc, ⟨hN, hQ⟩, l1, l2, l3⟩, st'⟩ := X.virtualBack hx (y := y') hown (mvT hZ w1) (mvT hZ w2) (notFace_of_selects (args := #[]) (mvT hZ w3)) (mvT hZ w3) (mvT hZ w4) hy (backOf (Q := fun v h L => Fr n0 L ∧ Post v h) (W := Wn) con hZ w6 w5 hf hl) b1 b3 (g := mkF m pc ls (argsL.reverse ++ .ref a :: st)) rfl (by rw [hml]; exact hls) (Steps.refl _) (argsL := argsL) (rest := st) (lenOf hpd hlen) rfl (by show 2 * 0 + _ ≤ _; omega) (hb hby hd) (fun _ _ => ⟨rfl, rfl, hc, hs⟩)
  dsimp only [Pt.U, Pt.locs, Pt.cells, Pt.slots] at X' l1 l2 l3 hQ st'
  subst l1 l2 l3
  exact (K T' v ⟨A, _, X', N.app hN⟩ hQ).back fun t r => st'.trans r
theorem g_callP (W : Wk Z y bytes ml ret n0 p l e R s m args below meth c T kc ks) {C : String} {fs : List FR} {L : List HRow} {i nn : Nat} (w1 : (Cond.methodLink y.cls ix y').before a0 Z = true) (w2 : (Cond.instanceMethod y').before a0 Z = true) (w3 : (Cond.privateMethod y').before a0 Z = true) (w4 : (Cond.instantiable y'.cls nn).before a0 Z = true) (w5 : (Cond.initialized y'.cls).before a0 Z = true) (w6 : (Cond.code y' bytes' ml' ret').before a0 Z = true) (hy : y'.cls ≠ "java/lang/invoke/MethodHandle" ∧ y'.cls ≠ "java/lang/invoke/VarHandle")
    {a : Addr} (H : Hp Z n0 T.heap L) (hi : L[i]? = some (a, ObC Z C fs)) (con : Con l Z n0 y' [] bytes' ml' ret' rm (.ref a :: argsL).toArray T.heap Post) (hpd : parseMethodDescriptor y'.desc = some ⟨ps, rt⟩) (hlen : argsL.length = ps.length) (hstk : stk = argsL.reverse ++ .ref a :: st) (hls : ls.size = ml) (hd : decode bytes pc = .ok (.invokevirtual ix, 3)) (hpc : pc + 3 = pc')
    (hf : rm.frames + 1 ≤ R.frames) (hW : (st.map fun v => v.category).sum ≤ Wn) (hl : Wn + (ml' + 11) + rm.locals ≤ R.locals) (hkc : kc + rm.cells = kc') (hks : ks + rm.slots = ks') (hc : kc' ≤ R.cells) (hs : ks' ≤ R.slots)
    (K : ∀ T' v, Wk Z y bytes ml ret n0 p l e R s m args below meth c T' kc' ks' → Post v T'.heap → Goes p e below E (T'.setTop (mkF m pc' ls (v.toList ++ st)))) : Goes p e below E (T.setTop (mkF m pc ls stk)) := by
  subst hpc hkc hks hstk
  have hx := W.hx; have hby := W.hby; have hown := W.hown; have hZ := W.hZ; have hml := W.hml
  obtain ⟨A, locs, X, N⟩ := W
  obtain ⟨-, cl, q1, q2⟩ := H.get hi
  have hst : ∀ q, cl.vm ≠ .statics q := fun q hq => by have := q2.2.2.1; rw [hq] at this; cases this
  obtain ⟨mk, methM, hnamed, hmethM, hstM, habM⟩ := Cond.instanceMethod_spec (args := #[]) (mvT hZ w2)
  obtain ⟨methM', cM, hmethM', -, -, -, -, -, -, hsigM⟩ := Cond.code_spec (args := #[]) hnamed (mvT hZ w6)
  cases hmethM.symm.trans hmethM'
  obtain ⟨cP0, kP, hf1, hkP, -, hkPi, -⟩ := Cond.instantiable_spec (mvT hZ w4 (args := #[]))
  cases (findClass_of_methodNamed hnamed).symm.trans hf1
  have hkPi' : kP.isInterface = false := (Bool.or_eq_false_iff.mp hkPi).1
  have hselP : selectMethod e.platform s.vm cl.cls mk = .method mk := selectMethod_private hmethM (Cond.privateMethod_at (mvP hZ w3 (args := #[])) mk methM hnamed hmethM)
  obtain ⟨vm1, X1, hstep1⟩ := X.invokevirtual hx hown (mvT hZ w1) hnamed hmethM hstM hkP hkPi' hy (a := a) (cell := cl) q1 hst hselP hmethM habM hkP hkPi' (g := mkF m pc ls (argsL.reverse ++ .ref a :: st)) rfl (argsL := argsL) (rest := st) (lenOf hpd hlen _ hsigM) rfl (hb hby hd)
  obtain ⟨v, ⟨T', L', kk, jj⟩, X', ⟨Lc, ⟨hN, hQ⟩, l1, l2, l3⟩, st'⟩ := (backOf (Q := fun v h L => Fr n0 L ∧ Post v h) (W := Wn) (len := 3) (p := p) (e := e) (below := below) (args := args) con hZ w6 w5 hf hl) m meth c ⟨T.setVm vm1, locs, kc, ks⟩ (mkF m pc ls st) (.invokevirtual ix) mk (.ref a :: argsL).toArray X1 rfl (by rw [hml]; exact hls) (hb hby hd) (by show 2 * 0 + (st.map fun v => v.category).sum ≤ Wn; omega) (X1.named hnamed) ⟨rfl, rfl, hc, hs⟩
  dsimp only [Pt.U, Pt.locs, Pt.cells, Pt.slots] at X' l1 l2 l3 hQ st'
  subst l1 l2 l3
  exact (K T' v ⟨A, _, X', N.app hN⟩ hQ).back fun t r => ((hstep1 _ fun acts => by rw [doInvoke_state]; exact Steps.refl _).trans st').trans r
end Calls
end Laws
end Jvm.OwnKit


@@BLOCK:NumsL.lean.txt@@
namespace Jvm.OwnKit
open Jvm.Free
/-! ### ints -/
theorem i32_zero {x : Int32} : x.toInt = 0 ↔ x = 0 := ⟨fun h => Int32.toInt_inj.mp (h.trans (by decide)), fun h => by rw [h]; decide⟩
theorem i32_lit {x y : Int32} {k : Int} (h : x.toInt = k) (hy : y.toInt = k) : x = y := Int32.toInt_inj.mp (h.trans hy.symm)
theorem and1 (x : Int32) : x &&& 1 = 0 ∨ x &&& 1 = 1 := by
  have h := Kit.i32_mask x 1 (k := 1) (by decide) (by decide)
  have q : (x &&& 1).toInt = 0 ∨ (x &&& 1).toInt = 1 := by omega
  rcases q with q | q
  · exact Or.inl (i32_lit q (by decide))
  · exact Or.inr (i32_lit q (by decide))
theorem and3 (x : Int32) : x &&& 3 = 0 ∨ x &&& 3 = 1 ∨ x &&& 3 = 2 ∨ x &&& 3 = 3 := by
  have h := Kit.i32_mask x 3 (k := 2) (by decide) (by decide)
  have q : (x &&& 3).toInt = 0 ∨ (x &&& 3).toInt = 1 ∨ (x &&& 3).toInt = 2 ∨ (x &&& 3).toInt = 3 := by omega
  rcases q with q | q | q | q
  · exact Or.inl (i32_lit q (by decide))
  · exact Or.inr (Or.inl (i32_lit q (by decide)))
  · exact Or.inr (Or.inr (Or.inl (i32_lit q (by decide))))
  · exact Or.inr (Or.inr (Or.inr (i32_lit q (by decide))))
theorem i32_remW (x y : Int32) : (x - (x / y) * y).toInt = x.toInt.tmod y.toInt := by
  have a := (x % y).toInt_lt; have b := (x % y).le_toInt
  rw [Int32.toInt_mod] at a b
  rw [Int32.toInt_sub, Int32.toInt_mul, Int32.toInt_div, Int.bmod_mul_bmod, Int.sub_bmod_bmod, Int.mul_comm, ← Int.tmod_def]
  exact Kit.bmod32 b a
theorem i32_remN {x y : Int32} (hx : 0 ≤ x.toInt) : (x - (x / y) * y).toInt = x.toInt % y.toInt := by rw [i32_remW, Int.tmod_eq_emod_of_nonneg hx]
theorem lt1 {j : Int32} (h : ¬ j < 0) (h2 : j < 1) : j = 0 := by
  rw [Int32.lt_iff_toInt_lt] at h h2
  have e0 : (0 : Int32).toInt = 0 := by decide
  have e1 : (1 : Int32).toInt = 1 := by decide
  exact i32_lit (k := 0) (by omega) e0
theorem lt2 {j : Int32} (h : ¬ j < 0) (h2 : j < 2) : j = 0 ∨ j = 1 := by
  rw [Int32.lt_iff_toInt_lt] at h h2
  have e0 : (0 : Int32).toInt = 0 := by decide
  have e1 : (2 : Int32).toInt = 2 := by decide
  have q : j.toInt = 0 ∨ j.toInt = 1 := by omega
  rcases q with q | q
  · exact Or.inl (i32_lit q (by decide))
  · exact Or.inr (i32_lit q (by decide))
theorem lt3 {j : Int32} (h : ¬ j < 0) (h2 : j < 3) : j = 0 ∨ j = 1 ∨ j = 2 := by
  rw [Int32.lt_iff_toInt_lt] at h h2
  have e0 : (0 : Int32).toInt = 0 := by decide
  have e1 : (3 : Int32).toInt = 3 := by decide
  have q : j.toInt = 0 ∨ j.toInt = 1 ∨ j.toInt = 2 := by omega
  rcases q with q | q | q
  · exact Or.inl (i32_lit q (by decide))
  · exact Or.inr (Or.inl (i32_lit q (by decide)))
  · exact Or.inr (Or.inr (i32_lit q (by decide)))
theorem lt0 {j : Int32} {P : Prop} (h : ¬ j < 0) (h2 : j < 0) : P := absurd h2 h
theorem cmpL3 (x y : Int64) : (x < y ∧ XT.cmpL x y = -1) ∨ (x = y ∧ XT.cmpL x y = 0) ∨ (y < x ∧ XT.cmpL x y = 1) := by
  have e : XT.cmpL x y = (if y < x then (1 : Int32) else if x = y then 0 else -1) := rfl
  by_cases h1 : y < x
  · exact Or.inr (Or.inr ⟨h1, by rw [e, if_pos h1]⟩)
  · by_cases h2 : x = y
    · exact Or.inr (Or.inl ⟨h2, by rw [e, if_neg h1, if_pos h2]⟩)
    · refine Or.inl ⟨?_, by rw [e, if_neg h1, if_neg h2]⟩
      rw [Int64.lt_iff_toInt_lt] at h1 ⊢
      have : x.toInt ≠ y.toInt := fun q => h2 (Int64.toInt_inj.mp q)
      omega
theorem cmpL_eq0 {x y : Int64} : XT.cmpL x y = 0 ↔ x = y := by
  rcases cmpL3 x y with ⟨h, g⟩ | ⟨h, g⟩ | ⟨h, g⟩ <;> rw [g]
  · exact ⟨fun q => absurd q (by decide), fun q => by subst q; rw [Int64.lt_iff_toInt_lt] at h; omega⟩
  · exact ⟨fun _ => h, fun _ => rfl⟩
  · exact ⟨fun q => absurd q (by decide), fun q => by subst q; rw [Int64.lt_iff_toInt_lt] at h; omega⟩
theorem cmpL_gt0 {x y : Int64} : (0 : Int32) < XT.cmpL x y ↔ y < x := by
  rcases cmpL3 x y with ⟨h, g⟩ | ⟨h, g⟩ | ⟨h, g⟩ <;> rw [g]
  · exact ⟨fun q => absurd q (by decide), fun q => by rw [Int64.lt_iff_toInt_lt] at h q; omega⟩
  · exact ⟨fun q => absurd q (by decide), fun q => by subst h; rw [Int64.lt_iff_toInt_lt] at q; omega⟩
  · exact ⟨fun _ => h, fun _ => by decide⟩
theorem cmpL_lt0 {x y : Int64} : XT.cmpL x y < (0 : Int32) ↔ x < y := by
  rcases cmpL3 x y with ⟨h, g⟩ | ⟨h, g⟩ | ⟨h, g⟩ <;> rw [g]
  · exact ⟨fun _ => h, fun _ => by decide⟩
  · exact ⟨fun q => absurd q (by decide), fun q => by subst h; rw [Int64.lt_iff_toInt_lt] at q; omega⟩
  · exact ⟨fun q => absurd q (by decide), fun q => by rw [Int64.lt_iff_toInt_lt] at h q; omega⟩
end Jvm.OwnKit

namespace Jvm.Pilot.@@N@@
open Jvm Jvm.ClassFile Sem Op Lib Jvm.Free Jvm.Stand Jvm.LawKit Jvm.RoadKit Jvm.OwnKit Jvm.Free.Fl Bundle Jvm.Pilot.@@N@@.Jvm.D
theorem wd_0 {Z : State} {a0 : Array Value} (hw : ∀ d ∈ tables_1, d.before a0 Z = true) : (Jvm.Cond.constant "com/example/narrow_bounds/narrowbounds/PreciseValuesCopyPinLaw" (7 : Nat) (2147483647 : Int32)).before a0 Z = true := hw _ (List.mem_of_getElem? (i := 0) rfl)
theorem wd_1 {Z : State} {a0 : Array Value} (hw : ∀ d ∈ tables_1, d.before a0 Z = true) : (Jvm.Cond.classLink "com/example/narrow_bounds/narrowbounds/PreciseValuesCopyPinLaw" (8 : Nat) "com/example/narrow_bounds/narrowbounds/PreciseValues").before a0 Z = true := hw _ (List.mem_of_getElem? (i := 1) rfl)
theorem wd_2 {Z : State} {a0 : Array Value} (hw : ∀ d ∈ tables_1, d.before a0 Z = true) : (Jvm.Cond.instantiable "com/example/narrow_bounds/narrowbounds/PreciseValues" (2 : Nat)).before a0 Z = true := hw _ (List.mem_of_getElem? (i := 2) rfl)
theorem wd_3 {Z : State} {a0 : Array Value} (hw : ∀ d ∈ tables_1, d.before a0 Z = true) : (Jvm.Cond.initialized "com/example/narrow_bounds/narrowbounds/PreciseValues").before a0 Z = true := hw _ (List.mem_of_getElem? (i := 3) rfl)
theorem wd_4 {Z : State} {a0 : Array Value} (hw : ∀ d ∈ tables_1, d.before a0 Z = true) : (Jvm.Cond.methodLink "com/example/narrow_bounds/narrowbounds/PreciseValuesCopyPinLaw" (10 : Nat) ({ cls := "com/example/narrow_bounds/narrowbounds/PreciseValues", name := "<init>", desc := "(I)V" } : Jvm.MethodName)).before a0 Z = true := hw _ (List.mem_of_getElem? (i := 4) rfl)
theorem wd_5 {Z : State} {a0 : Array Value} (hw : ∀ d ∈ tables_1, d.before a0 Z = true) : (Jvm.Cond.instanceMethod ({ cls := "com/example/narrow_bounds/narrowbounds/PreciseValues", name := "<init>", desc := "(I)V" } : Jvm.MethodName)).before a0 Z = true := hw _ (List.mem_of_getElem? (i := 5) rfl)
theorem wd_6 {Z : State} {a0 : Array Value} (hw : ∀ d ∈ tables_1, d.before a0 Z = true) : (Jvm.Cond.code ({ cls := "com/example/narrow_bounds/narrowbounds/PreciseValues", name := "<init>", desc := "(I)V" } : Jvm.MethodName) prog_34_method_1_code (2 : Nat) (Option.none : Option Jvm.ClassFile.FieldType)).before a0 Z = true := hw _ (List.mem_of_getElem? (i := 6) rfl)
theorem wd_7 {Z : State} {a0 : Array Value} (hw : ∀ d ∈ tables_1, d.before a0 Z = true) : (Jvm.Cond.methodLink "com/example/narrow_bounds/narrowbounds/PreciseValues" (1 : Nat) ({ cls := "java/lang/Object", name := "<init>", desc := "()V" } : Jvm.MethodName)).before a0 Z = true := hw _ (List.mem_of_getElem? (i := 7) rfl)
theorem wd_8 {Z : State} {a0 : Array Value} (hw : ∀ d ∈ tables_1, d.before a0 Z = true) : (Jvm.Cond.instanceMethod ({ cls := "java/lang/Object", name := "<init>", desc := "()V" } : Jvm.MethodName)).before a0 Z = true := hw _ (List.mem_of_getElem? (i := 8) rfl)
theorem wd_9 {Z : State} {a0 : Array Value} (hw : ∀ d ∈ tables_1, d.before a0 Z = true) : (Jvm.Cond.code ({ cls := "java/lang/Object", name := "<init>", desc := "()V" } : Jvm.MethodName) object_method_1_code (1 : Nat) (Option.none : Option Jvm.ClassFile.FieldType)).before a0 Z = true := hw _ (List.mem_of_getElem? (i := 9) rfl)
theorem wd_10 {Z : State} {a0 : Array Value} (hw : ∀ d ∈ tables_1, d.before a0 Z = true) : (Jvm.Cond.arrayClass Jvm.ClassFile.FieldType.double).before a0 Z = true := hw _ (List.mem_of_getElem? (i := 10) rfl)
theorem wd_11 {Z : State} {a0 : Array Value} (hw : ∀ d ∈ tables_1, d.before a0 Z = true) : (Jvm.Cond.fieldLink "com/example/narrow_bounds/narrowbounds/PreciseValues" (7 : Nat) "com/example/narrow_bounds/narrowbounds/PreciseValues" "highs" "[D").before a0 Z = true := hw _ (List.mem_of_getElem? (i := 11) rfl)
theorem wd_12 {Z : State} {a0 : Array Value} (hw : ∀ d ∈ tables_1, d.before a0 Z = true) : (Jvm.Cond.laysFinal "com/example/narrow_bounds/narrowbounds/PreciseValues" "com/example/narrow_bounds/narrowbounds/PreciseValues" "highs" "[D").before a0 Z = true := hw _ (List.mem_of_getElem? (i := 12) rfl)
theorem wd_13 {Z : State} {a0 : Array Value} (hw : ∀ d ∈ tables_1, d.before a0 Z = true) : (Jvm.Cond.fieldLink "com/example/narrow_bounds/narrowbounds/PreciseValues" (13 : Nat) "com/example/narrow_bounds/narrowbounds/PreciseValues" "lows" "[D").before a0 Z = true := hw _ (List.mem_of_getElem? (i := 13) rfl)
theorem wd_14 {Z : State} {a0 : Array Value} (hw : ∀ d ∈ tables_1, d.before a0 Z = true) : (Jvm.Cond.laysFinal "com/example/narrow_bounds/narrowbounds/PreciseValues" "com/example/narrow_bounds/narrowbounds/PreciseValues" "lows" "[D").before a0 Z = true := hw _ (List.mem_of_getElem? (i := 14) rfl)
theorem wd_15 {Z : State} {a0 : Array Value} (hw : ∀ d ∈ tables_1, d.before a0 Z = true) : (Jvm.Cond.methodLink "com/example/narrow_bounds/narrowbounds/PreciseValuesCopyPinLaw" (13 : Nat) ({ cls := "com/example/narrow_bounds/narrowbounds/PreciseValues", name := "set", desc := "(ID)V" } : Jvm.MethodName)).before a0 Z = true := hw _ (List.mem_of_getElem? (i := 15) rfl)
theorem wd_16 {Z : State} {a0 : Array Value} (hw : ∀ d ∈ tables_1, d.before a0 Z = true) : (Jvm.Cond.declares ({ cls := "com/example/narrow_bounds/narrowbounds/PreciseValues", name := "set", desc := "(ID)V" } : Jvm.MethodName)).before a0 Z = true := hw _ (List.mem_of_getElem? (i := 16) rfl)
theorem wd_17 {Z : State} {a0 : Array Value} (hw : ∀ d ∈ tables_1, d.before a0 Z = true) : (Jvm.Cond.instanceMethod ({ cls := "com/example/narrow_bounds/narrowbounds/PreciseValues", name := "set", desc := "(ID)V" } : Jvm.MethodName)).before a0 Z = true := hw _ (List.mem_of_getElem? (i := 17) rfl)
theorem wd_18 {Z : State} {a0 : Array Value} (hw : ∀ d ∈ tables_1, d.before a0 Z = true) : (Jvm.Cond.selects "com/example/narrow_bounds/narrowbounds/PreciseValues" ({ cls := "com/example/narrow_bounds/narrowbounds/PreciseValues", name := "set", desc := "(ID)V" } : Jvm.MethodName) ({ cls := "com/example/narrow_bounds/narrowbounds/PreciseValues", name := "set", desc := "(ID)V" } : Jvm.MethodName)).before a0 Z = true := hw _ (List.mem_of_getElem? (i := 18) rfl)
theorem wd_19 {Z : State} {a0 : Array Value} (hw : ∀ d ∈ tables_1, d.before a0 Z = true) : (Jvm.Cond.code ({ cls := "com/example/narrow_bounds/narrowbounds/PreciseValues", name := "set", desc := "(ID)V" } : Jvm.MethodName) prog_34_method_2_code (4 : Nat) (Option.none : Option Jvm.ClassFile.FieldType)).before a0 Z = true := hw _ (List.mem_of_getElem? (i := 19) rfl)
theorem wd_20 {Z : State} {a0 : Array Value} (hw : ∀ d ∈ tables_1, d.before a0 Z = true) : (Jvm.Cond.methodLink "com/example/narrow_bounds/narrowbounds/PreciseValuesCopyPinLaw" (17 : Nat) ({ cls := "com/example/narrow_bounds/narrowbounds/PreciseValues", name := "add", desc := "(ID)V" } : Jvm.MethodName)).before a0 Z = true := hw _ (List.mem_of_getElem? (i := 20) rfl)
theorem wd_21 {Z : State} {a0 : Array Value} (hw : ∀ d ∈ tables_1, d.before a0 Z = true) : (Jvm.Cond.declares ({ cls := "com/example/narrow_bounds/narrowbounds/PreciseValues", name := "add", desc := "(ID)V" } : Jvm.MethodName)).before a0 Z = true := hw _ (List.mem_of_getElem? (i := 21) rfl)
theorem wd_22 {Z : State} {a0 : Array Value} (hw : ∀ d ∈ tables_1, d.before a0 Z = true) : (Jvm.Cond.instanceMethod ({ cls := "com/example/narrow_bounds/narrowbounds/PreciseValues", name := "add", desc := "(ID)V" } : Jvm.MethodName)).before a0 Z = true := hw _ (List.mem_of_getElem? (i := 22) rfl)
theorem wd_23 {Z : State} {a0 : Array Value} (hw : ∀ d ∈ tables_1, d.before a0 Z = true) : (Jvm.Cond.selects "com/example/narrow_bounds/narrowbounds/PreciseValues" ({ cls := "com/example/narrow_bounds/narrowbounds/PreciseValues", name := "add", desc := "(ID)V" } : Jvm.MethodName) ({ cls := "com/example/narrow_bounds/narrowbounds/PreciseValues", name := "add", desc := "(ID)V" } : Jvm.MethodName)).before a0 Z = true := hw _ (List.mem_of_getElem? (i := 23) rfl)
theorem wd_24 {Z : State} {a0 : Array Value} (hw : ∀ d ∈ tables_1, d.before a0 Z = true) : (Jvm.Cond.code ({ cls := "com/example/narrow_bounds/narrowbounds/PreciseValues", name := "add", desc := "(ID)V" } : Jvm.MethodName) prog_34_method_4_code (10 : Nat) (Option.none : Option Jvm.ClassFile.FieldType)).before a0 Z = true := hw _ (List.mem_of_getElem? (i := 24) rfl)
theorem wd_25 {Z : State} {a0 : Array Value} (hw : ∀ d ∈ tables_1, d.before a0 Z = true) : (Jvm.Cond.methodLink "com/example/narrow_bounds/narrowbounds/PreciseValues" (16 : Nat) ({ cls := "com/example/narrow_bounds/narrowbounds/PreciseValues", name := "error", desc := "(DDD)D" } : Jvm.MethodName)).before a0 Z = true := hw _ (List.mem_of_getElem? (i := 25) rfl)
theorem wd_26 {Z : State} {a0 : Array Value} (hw : ∀ d ∈ tables_1, d.before a0 Z = true) : (Jvm.Cond.static ({ cls := "com/example/narrow_bounds/narrowbounds/PreciseValues", name := "error", desc := "(DDD)D" } : Jvm.MethodName)).before a0 Z = true := hw _ (List.mem_of_getElem? (i := 26) rfl)
theorem wd_27 {Z : State} {a0 : Array Value} (hw : ∀ d ∈ tables_1, d.before a0 Z = true) : (Jvm.Cond.code ({ cls := "com/example/narrow_bounds/narrowbounds/PreciseValues", name := "error", desc := "(DDD)D" } : Jvm.MethodName) prog_34_method_15_code (10 : Nat) (Option.some Jvm.ClassFile.FieldType.double)).before a0 Z = true := hw _ (List.mem_of_getElem? (i := 27) rfl)
theorem wd_28 {Z : State} {a0 : Array Value} (hw : ∀ d ∈ tables_1, d.before a0 Z = true) : (Jvm.Cond.methodLink "com/example/narrow_bounds/narrowbounds/PreciseValuesCopyPinLaw" (20 : Nat) ({ cls := "com/example/narrow_bounds/narrowbounds/PreciseValues", name := "copy", desc := "(ILcom/example/narrow_bounds/narrowbounds/PreciseValues;)V" } : Jvm.MethodName)).before a0 Z = true := hw _ (List.mem_of_getElem? (i := 28) rfl)
theorem wd_29 {Z : State} {a0 : Array Value} (hw : ∀ d ∈ tables_1, d.before a0 Z = true) : (Jvm.Cond.declares ({ cls := "com/example/narrow_bounds/narrowbounds/PreciseValues", name := "copy", desc := "(ILcom/example/narrow_bounds/narrowbounds/PreciseValues;)V" } : Jvm.MethodName)).before a0 Z = true := hw _ (List.mem_of_getElem? (i := 29) rfl)
theorem wd_30 {Z : State} {a0 : Array Value} (hw : ∀ d ∈ tables_1, d.before a0 Z = true) : (Jvm.Cond.instanceMethod ({ cls := "com/example/narrow_bounds/narrowbounds/PreciseValues", name := "copy", desc := "(ILcom/example/narrow_bounds/narrowbounds/PreciseValues;)V" } : Jvm.MethodName)).before a0 Z = true := hw _ (List.mem_of_getElem? (i := 30) rfl)
theorem wd_31 {Z : State} {a0 : Array Value} (hw : ∀ d ∈ tables_1, d.before a0 Z = true) : (Jvm.Cond.selects "com/example/narrow_bounds/narrowbounds/PreciseValues" ({ cls := "com/example/narrow_bounds/narrowbounds/PreciseValues", name := "copy", desc := "(ILcom/example/narrow_bounds/narrowbounds/PreciseValues;)V" } : Jvm.MethodName) ({ cls := "com/example/narrow_bounds/narrowbounds/PreciseValues", name := "copy", desc := "(ILcom/example/narrow_bounds/narrowbounds/PreciseValues;)V" } : Jvm.MethodName)).before a0 Z = true := hw _ (List.mem_of_getElem? (i := 31) rfl)
theorem wd_32 {Z : State} {a0 : Array Value} (hw : ∀ d ∈ tables_1, d.before a0 Z = true) : (Jvm.Cond.code ({ cls := "com/example/narrow_bounds/narrowbounds/PreciseValues", name := "copy", desc := "(ILcom/example/narrow_bounds/narrowbounds/PreciseValues;)V" } : Jvm.MethodName) prog_34_method_3_code (3 : Nat) (Option.none : Option Jvm.ClassFile.FieldType)).before a0 Z = true := hw _ (List.mem_of_getElem? (i := 32) rfl)
theorem wd_33 {Z : State} {a0 : Array Value} (hw : ∀ d ∈ tables_1, d.before a0 Z = true) : (Jvm.Cond.methodLink "com/example/narrow_bounds/narrowbounds/PreciseValuesCopyPinLaw" (24 : Nat) ({ cls := "com/example/narrow_bounds/narrowbounds/PreciseValues", name := "nearest", desc := "(I)D" } : Jvm.MethodName)).before a0 Z = true := hw _ (List.mem_of_getElem? (i := 33) rfl)
theorem wd_34 {Z : State} {a0 : Array Value} (hw : ∀ d ∈ tables_1, d.before a0 Z = true) : (Jvm.Cond.declares ({ cls := "com/example/narrow_bounds/narrowbounds/PreciseValues", name := "nearest", desc := "(I)D" } : Jvm.MethodName)).before a0 Z = true := hw _ (List.mem_of_getElem? (i := 34) rfl)
theorem wd_35 {Z : State} {a0 : Array Value} (hw : ∀ d ∈ tables_1, d.before a0 Z = true) : (Jvm.Cond.instanceMethod ({ cls := "com/example/narrow_bounds/narrowbounds/PreciseValues", name := "nearest", desc := "(I)D" } : Jvm.MethodName)).before a0 Z = true := hw _ (List.mem_of_getElem? (i := 35) rfl)
theorem wd_36 {Z : State} {a0 : Array Value} (hw : ∀ d ∈ tables_1, d.before a0 Z = true) : (Jvm.Cond.selects "com/example/narrow_bounds/narrowbounds/PreciseValues" ({ cls := "com/example/narrow_bounds/narrowbounds/PreciseValues", name := "nearest", desc := "(I)D" } : Jvm.MethodName) ({ cls := "com/example/narrow_bounds/narrowbounds/PreciseValues", name := "nearest", desc := "(I)D" } : Jvm.MethodName)).before a0 Z = true := hw _ (List.mem_of_getElem? (i := 36) rfl)
theorem wd_37 {Z : State} {a0 : Array Value} (hw : ∀ d ∈ tables_1, d.before a0 Z = true) : (Jvm.Cond.code ({ cls := "com/example/narrow_bounds/narrowbounds/PreciseValues", name := "nearest", desc := "(I)D" } : Jvm.MethodName) prog_34_method_5_code (2 : Nat) (Option.some Jvm.ClassFile.FieldType.double)).before a0 Z = true := hw _ (List.mem_of_getElem? (i := 37) rfl)
theorem wd_38 {Z : State} {a0 : Array Value} (hw : ∀ d ∈ tables_1, d.before a0 Z = true) : (Jvm.Cond.methodLink "com/example/narrow_bounds/narrowbounds/PreciseValuesCopyPinLaw" (28 : Nat) ({ cls := "com/example/narrow_bounds/narrowbounds/PreciseValues", name := "difference", desc := "(ID)D" } : Jvm.MethodName)).before a0 Z = true := hw _ (List.mem_of_getElem? (i := 38) rfl)
theorem wd_39 {Z : State} {a0 : Array Value} (hw : ∀ d ∈ tables_1, d.before a0 Z = true) : (Jvm.Cond.declares ({ cls := "com/example/narrow_bounds/narrowbounds/PreciseValues", name := "difference", desc := "(ID)D" } : Jvm.MethodName)).before a0 Z = true := hw _ (List.mem_of_getElem? (i := 39) rfl)
theorem wd_40 {Z : State} {a0 : Array Value} (hw : ∀ d ∈ tables_1, d.before a0 Z = true) : (Jvm.Cond.instanceMethod ({ cls := "com/example/narrow_bounds/narrowbounds/PreciseValues", name := "difference", desc := "(ID)D" } : Jvm.MethodName)).before a0 Z = true := hw _ (List.mem_of_getElem? (i := 40) rfl)
theorem wd_41 {Z : State} {a0 : Array Value} (hw : ∀ d ∈ tables_1, d.before a0 Z = true) : (Jvm.Cond.selects "com/example/narrow_bounds/narrowbounds/PreciseValues" ({ cls := "com/example/narrow_bounds/narrowbounds/PreciseValues", name := "difference", desc := "(ID)D" } : Jvm.MethodName) ({ cls := "com/example/narrow_bounds/narrowbounds/PreciseValues", name := "difference", desc := "(ID)D" } : Jvm.MethodName)).before a0 Z = true := hw _ (List.mem_of_getElem? (i := 41) rfl)
theorem wd_42 {Z : State} {a0 : Array Value} (hw : ∀ d ∈ tables_1, d.before a0 Z = true) : (Jvm.Cond.code ({ cls := "com/example/narrow_bounds/narrowbounds/PreciseValues", name := "difference", desc := "(ID)D" } : Jvm.MethodName) prog_34_method_11_code (6 : Nat) (Option.some Jvm.ClassFile.FieldType.double)).before a0 Z = true := hw _ (List.mem_of_getElem? (i := 42) rfl)
theorem la_PreciseValues {Z : State} {a0 : Array Value} (hw : ∀ d ∈ tables_1, d.before a0 Z = true) : LaidAll Z a0 "com/example/narrow_bounds/narrowbounds/PreciseValues" [("com/example/narrow_bounds/narrowbounds/PreciseValues", "highs", "[D", .null), ("com/example/narrow_bounds/narrowbounds/PreciseValues", "lows", "[D", .null)] := LaidAll.cons (Or.inr (wd_12 hw)) (t := (.array .double)) (by decide) rfl (LaidAll.cons (Or.inr (wd_14 hw)) (t := (.array .double)) (by decide) rfl (LaidAll.nil))
theorem ef_1 (m : MethodId) (x0 : Addr) (x1 : Int32) : entryFrame m #[.ref x0, .int x1] 2 = mkF m 0 #[.val (.ref x0), .val (.int x1)] [] := by first | (simp [entryFrame, mkF, argsToLocals, Value.category, maxLocals]; done) | rfl
theorem d1_0 : decode prog_34_method_1_code 0 = .ok (.aload_n 0, 1) := by decide +kernel
theorem d1_1 : decode prog_34_method_1_code 1 = .ok (.invokespecial 1, 3) := by decide +kernel
theorem d1_4 : decode prog_34_method_1_code 4 = .ok (.aload_n 0, 1) := by decide +kernel
theorem d1_5 : decode prog_34_method_1_code 5 = .ok (.iload_n 1, 1) := by decide +kernel
theorem d1_6 : decode prog_34_method_1_code 6 = .ok (.newarray .double, 2) := by decide +kernel
theorem d1_8 : decode prog_34_method_1_code 8 = .ok (.putfield 7, 3) := by decide +kernel
theorem d1_11 : decode prog_34_method_1_code 11 = .ok (.aload_n 0, 1) := by decide +kernel
theorem d1_12 : decode prog_34_method_1_code 12 = .ok (.iload_n 1, 1) := by decide +kernel
theorem d1_13 : decode prog_34_method_1_code 13 = .ok (.newarray .double, 2) := by decide +kernel
theorem d1_15 : decode prog_34_method_1_code 15 = .ok (.putfield 13, 3) := by decide +kernel
theorem d1_18 : decode prog_34_method_1_code 18 = .ok (.return_, 1) := by decide +kernel
theorem pn_PreciseValues : plainName "com/example/narrow_bounds/narrowbounds/PreciseValues" = true := by first | (simp [plainName, overriddenIn]; done) | decide +kernel
theorem ef_5 (m : MethodId) (x0 : UInt64) (x1 : UInt64) (x2 : UInt64) : entryFrame m #[.double x0, .double x1, .double x2] 10 = mkF m 0 #[.val (.double x0), .second, .val (.double x1), .second, .val (.double x2), .second, .unset, .unset, .unset, .unset] [] := by first | (simp [entryFrame, mkF, argsToLocals, Value.category, maxLocals]; done) | rfl
theorem d5_0 : decode prog_34_method_15_code 0 = .ok (.dload 4, 2) := by decide +kernel
theorem d5_2 : decode prog_34_method_15_code 2 = .ok (.dload_n 0, 1) := by decide +kernel
theorem d5_3 : decode prog_34_method_15_code 3 = .ok (.dsub, 1) := by decide +kernel
theorem d5_4 : decode prog_34_method_15_code 4 = .ok (.dstore 6, 2) := by decide +kernel
theorem d5_6 : decode prog_34_method_15_code 6 = .ok (.dload 4, 2) := by decide +kernel
theorem d5_8 : decode prog_34_method_15_code 8 = .ok (.dload 6, 2) := by decide +kernel
theorem d5_10 : decode prog_34_method_15_code 10 = .ok (.dsub, 1) := by decide +kernel
theorem d5_11 : decode prog_34_method_15_code 11 = .ok (.dstore 8, 2) := by decide +kernel
theorem d5_13 : decode prog_34_method_15_code 13 = .ok (.dload_n 0, 1) := by decide +kernel
theorem d5_14 : decode prog_34_method_15_code 14 = .ok (.dload 8, 2) := by decide +kernel
theorem d5_16 : decode prog_34_method_15_code 16 = .ok (.dsub, 1) := by decide +kernel
theorem d5_17 : decode prog_34_method_15_code 17 = .ok (.dload_n 2, 1) := by decide +kernel
theorem d5_18 : decode prog_34_method_15_code 18 = .ok (.dload 6, 2) := by decide +kernel
theorem d5_20 : decode prog_34_method_15_code 20 = .ok (.dsub, 1) := by decide +kernel
theorem d5_21 : decode prog_34_method_15_code 21 = .ok (.dadd, 1) := by decide +kernel
theorem d5_22 : decode prog_34_method_15_code 22 = .ok (.dreturn, 1) := by decide +kernel
theorem ef_3 (m : MethodId) (x0 : Addr) (x1 : Int32) (x2 : UInt64) : entryFrame m #[.ref x0, .int x1, .double x2] 4 = mkF m 0 #[.val (.ref x0), .val (.int x1), .val (.double x2), .second] [] := by first | (simp [entryFrame, mkF, argsToLocals, Value.category, maxLocals]; done) | rfl
theorem d3_0 : decode prog_34_method_2_code 0 = .ok (.aload_n 0, 1) := by decide +kernel
theorem d3_1 : decode prog_34_method_2_code 1 = .ok (.getfield 7, 3) := by decide +kernel
theorem d3_4 : decode prog_34_method_2_code 4 = .ok (.iload_n 1, 1) := by decide +kernel
theorem d3_5 : decode prog_34_method_2_code 5 = .ok (.dload_n 2, 1) := by decide +kernel
theorem d3_6 : decode prog_34_method_2_code 6 = .ok (.dastore, 1) := by decide +kernel
theorem d3_7 : decode prog_34_method_2_code 7 = .ok (.aload_n 0, 1) := by decide +kernel
theorem d3_8 : decode prog_34_method_2_code 8 = .ok (.getfield 13, 3) := by decide +kernel
theorem d3_11 : decode prog_34_method_2_code 11 = .ok (.iload_n 1, 1) := by decide +kernel
theorem d3_12 : decode prog_34_method_2_code 12 = .ok (.dconst 0, 1) := by decide +kernel
theorem d3_13 : decode prog_34_method_2_code 13 = .ok (.dastore, 1) := by decide +kernel
theorem d3_14 : decode prog_34_method_2_code 14 = .ok (.return_, 1) := by decide +kernel
theorem ef_4 (m : MethodId) (x0 : Addr) (x1 : Int32) (x2 : UInt64) : entryFrame m #[.ref x0, .int x1, .double x2] 10 = mkF m 0 #[.val (.ref x0), .val (.int x1), .val (.double x2), .second, .unset, .unset, .unset, .unset, .unset, .unset] [] := by first | (simp [entryFrame, mkF, argsToLocals, Value.category, maxLocals]; done) | rfl
theorem d4_0 : decode prog_34_method_4_code 0 = .ok (.aload_n 0, 1) := by decide +kernel
theorem d4_1 : decode prog_34_method_4_code 1 = .ok (.getfield 7, 3) := by decide +kernel
theorem d4_4 : decode prog_34_method_4_code 4 = .ok (.iload_n 1, 1) := by decide +kernel
theorem d4_5 : decode prog_34_method_4_code 5 = .ok (.daload, 1) := by decide +kernel
theorem d4_6 : decode prog_34_method_4_code 6 = .ok (.dload_n 2, 1) := by decide +kernel
theorem d4_7 : decode prog_34_method_4_code 7 = .ok (.dadd, 1) := by decide +kernel
theorem d4_8 : decode prog_34_method_4_code 8 = .ok (.dstore 4, 2) := by decide +kernel
theorem d4_10 : decode prog_34_method_4_code 10 = .ok (.aload_n 0, 1) := by decide +kernel
theorem d4_11 : decode prog_34_method_4_code 11 = .ok (.getfield 13, 3) := by decide +kernel
theorem d4_14 : decode prog_34_method_4_code 14 = .ok (.iload_n 1, 1) := by decide +kernel
theorem d4_15 : decode prog_34_method_4_code 15 = .ok (.daload, 1) := by decide +kernel
theorem d4_16 : decode prog_34_method_4_code 16 = .ok (.aload_n 0, 1) := by decide +kernel
theorem d4_17 : decode prog_34_method_4_code 17 = .ok (.getfield 7, 3) := by decide +kernel
theorem d4_20 : decode prog_34_method_4_code 20 = .ok (.iload_n 1, 1) := by decide +kernel
theorem d4_21 : decode prog_34_method_4_code 21 = .ok (.daload, 1) := by decide +kernel
theorem d4_22 : decode prog_34_method_4_code 22 = .ok (.dload_n 2, 1) := by decide +kernel
theorem d4_23 : decode prog_34_method_4_code 23 = .ok (.dload 4, 2) := by decide +kernel
theorem d4_25 : decode prog_34_method_4_code 25 = .ok (.invokestatic 16, 3) := by decide +kernel
theorem pd_0 : parseMethodDescriptor "(DDD)D" = some ⟨[.double, .double, .double], some .double⟩ := by decide +kernel
theorem d4_28 : decode prog_34_method_4_code 28 = .ok (.dadd, 1) := by decide +kernel
theorem d4_29 : decode prog_34_method_4_code 29 = .ok (.dstore 6, 2) := by decide +kernel
theorem d4_31 : decode prog_34_method_4_code 31 = .ok (.dload 4, 2) := by decide +kernel
theorem d4_33 : decode prog_34_method_4_code 33 = .ok (.dload 6, 2) := by decide +kernel
theorem d4_35 : decode prog_34_method_4_code 35 = .ok (.dadd, 1) := by decide +kernel
theorem d4_36 : decode prog_34_method_4_code 36 = .ok (.dstore 8, 2) := by decide +kernel
theorem d4_38 : decode prog_34_method_4_code 38 = .ok (.aload_n 0, 1) := by decide +kernel
theorem d4_39 : decode prog_34_method_4_code 39 = .ok (.getfield 7, 3) := by decide +kernel
theorem d4_42 : decode prog_34_method_4_code 42 = .ok (.iload_n 1, 1) := by decide +kernel
theorem d4_43 : decode prog_34_method_4_code 43 = .ok (.dload 8, 2) := by decide +kernel
theorem d4_45 : decode prog_34_method_4_code 45 = .ok (.dastore, 1) := by decide +kernel
theorem d4_46 : decode prog_34_method_4_code 46 = .ok (.aload_n 0, 1) := by decide +kernel
theorem d4_47 : decode prog_34_method_4_code 47 = .ok (.getfield 13, 3) := by decide +kernel
theorem d4_50 : decode prog_34_method_4_code 50 = .ok (.iload_n 1, 1) := by decide +kernel
theorem d4_51 : decode prog_34_method_4_code 51 = .ok (.dload 4, 2) := by decide +kernel
theorem d4_53 : decode prog_34_method_4_code 53 = .ok (.dload 6, 2) := by decide +kernel
theorem d4_55 : decode prog_34_method_4_code 55 = .ok (.dload 8, 2) := by decide +kernel
theorem d4_57 : decode prog_34_method_4_code 57 = .ok (.invokestatic 16, 3) := by decide +kernel
theorem d4_60 : decode prog_34_method_4_code 60 = .ok (.dastore, 1) := by decide +kernel
theorem d4_61 : decode prog_34_method_4_code 61 = .ok (.return_, 1) := by decide +kernel
theorem ef_6 (m : MethodId) (x0 : Addr) (x1 : Int32) (x2 : Addr) : entryFrame m #[.ref x0, .int x1, .ref x2] 3 = mkF m 0 #[.val (.ref x0), .val (.int x1), .val (.ref x2)] [] := by first | (simp [entryFrame, mkF, argsToLocals, Value.category, maxLocals]; done) | rfl
theorem d6_0 : decode prog_34_method_3_code 0 = .ok (.aload_n 0, 1) := by decide +kernel
theorem d6_1 : decode prog_34_method_3_code 1 = .ok (.getfield 7, 3) := by decide +kernel
theorem d6_4 : decode prog_34_method_3_code 4 = .ok (.iload_n 1, 1) := by decide +kernel
theorem d6_5 : decode prog_34_method_3_code 5 = .ok (.aload_n 2, 1) := by decide +kernel
theorem d6_6 : decode prog_34_method_3_code 6 = .ok (.getfield 7, 3) := by decide +kernel
theorem d6_9 : decode prog_34_method_3_code 9 = .ok (.iload_n 1, 1) := by decide +kernel
theorem d6_10 : decode prog_34_method_3_code 10 = .ok (.daload, 1) := by decide +kernel
theorem d6_11 : decode prog_34_method_3_code 11 = .ok (.dastore, 1) := by decide +kernel
theorem d6_12 : decode prog_34_method_3_code 12 = .ok (.aload_n 0, 1) := by decide +kernel
theorem d6_13 : decode prog_34_method_3_code 13 = .ok (.getfield 13, 3) := by decide +kernel
theorem d6_16 : decode prog_34_method_3_code 16 = .ok (.iload_n 1, 1) := by decide +kernel
theorem d6_17 : decode prog_34_method_3_code 17 = .ok (.aload_n 2, 1) := by decide +kernel
theorem d6_18 : decode prog_34_method_3_code 18 = .ok (.getfield 13, 3) := by decide +kernel
theorem d6_21 : decode prog_34_method_3_code 21 = .ok (.iload_n 1, 1) := by decide +kernel
theorem d6_22 : decode prog_34_method_3_code 22 = .ok (.daload, 1) := by decide +kernel
theorem d6_23 : decode prog_34_method_3_code 23 = .ok (.dastore, 1) := by decide +kernel
theorem d6_24 : decode prog_34_method_3_code 24 = .ok (.return_, 1) := by decide +kernel
theorem ef_7 (m : MethodId) (x0 : Addr) (x1 : Int32) : entryFrame m #[.ref x0, .int x1] 2 = mkF m 0 #[.val (.ref x0), .val (.int x1)] [] := by first | (simp [entryFrame, mkF, argsToLocals, Value.category, maxLocals]; done) | rfl
theorem d7_0 : decode prog_34_method_5_code 0 = .ok (.aload_n 0, 1) := by decide +kernel
theorem d7_1 : decode prog_34_method_5_code 1 = .ok (.getfield 7, 3) := by decide +kernel
theorem d7_4 : decode prog_34_method_5_code 4 = .ok (.iload_n 1, 1) := by decide +kernel
theorem d7_5 : decode prog_34_method_5_code 5 = .ok (.daload, 1) := by decide +kernel
theorem d7_6 : decode prog_34_method_5_code 6 = .ok (.dreturn, 1) := by decide +kernel
theorem ef_8 (m : MethodId) (x0 : Addr) (x1 : Int32) (x2 : UInt64) : entryFrame m #[.ref x0, .int x1, .double x2] 6 = mkF m 0 #[.val (.ref x0), .val (.int x1), .val (.double x2), .second, .unset, .unset] [] := by first | (simp [entryFrame, mkF, argsToLocals, Value.category, maxLocals]; done) | rfl
theorem d8_0 : decode prog_34_method_11_code 0 = .ok (.aload_n 0, 1) := by decide +kernel
theorem d8_1 : decode prog_34_method_11_code 1 = .ok (.getfield 7, 3) := by decide +kernel
theorem d8_4 : decode prog_34_method_11_code 4 = .ok (.iload_n 1, 1) := by decide +kernel
theorem d8_5 : decode prog_34_method_11_code 5 = .ok (.daload, 1) := by decide +kernel
theorem d8_6 : decode prog_34_method_11_code 6 = .ok (.dload_n 2, 1) := by decide +kernel
theorem d8_7 : decode prog_34_method_11_code 7 = .ok (.dsub, 1) := by decide +kernel
theorem d8_8 : decode prog_34_method_11_code 8 = .ok (.dstore 4, 2) := by decide +kernel
theorem d8_10 : decode prog_34_method_11_code 10 = .ok (.dload 4, 2) := by decide +kernel
theorem d8_12 : decode prog_34_method_11_code 12 = .ok (.aload_n 0, 1) := by decide +kernel
theorem d8_13 : decode prog_34_method_11_code 13 = .ok (.getfield 7, 3) := by decide +kernel
theorem d8_16 : decode prog_34_method_11_code 16 = .ok (.iload_n 1, 1) := by decide +kernel
theorem d8_17 : decode prog_34_method_11_code 17 = .ok (.daload, 1) := by decide +kernel
theorem d8_18 : decode prog_34_method_11_code 18 = .ok (.dload_n 2, 1) := by decide +kernel
theorem d8_19 : decode prog_34_method_11_code 19 = .ok (.dneg, 1) := by decide +kernel
theorem d8_20 : decode prog_34_method_11_code 20 = .ok (.dload 4, 2) := by decide +kernel
theorem d8_22 : decode prog_34_method_11_code 22 = .ok (.invokestatic 16, 3) := by decide +kernel
theorem d8_25 : decode prog_34_method_11_code 25 = .ok (.aload_n 0, 1) := by decide +kernel
theorem d8_26 : decode prog_34_method_11_code 26 = .ok (.getfield 13, 3) := by decide +kernel
theorem d8_29 : decode prog_34_method_11_code 29 = .ok (.iload_n 1, 1) := by decide +kernel
theorem d8_30 : decode prog_34_method_11_code 30 = .ok (.daload, 1) := by decide +kernel
theorem d8_31 : decode prog_34_method_11_code 31 = .ok (.dadd, 1) := by decide +kernel
theorem d8_32 : decode prog_34_method_11_code 32 = .ok (.dadd, 1) := by decide +kernel
theorem d8_33 : decode prog_34_method_11_code 33 = .ok (.dreturn, 1) := by decide +kernel
theorem ef_0 (m : MethodId) (x0 : Int32) (x1 : Int64) (x2 : Int32) (x3 : Int64) (x4 : Int64) : entryFrame m #[.int x0, .long x1, .int x2, .long x3, .long x4] maxLocals = mkF m 0 #[.val (.int x0), .val (.long x1), .second, .val (.int x2), .val (.long x3), .second, .val (.long x4), .second, .unset, .unset, .unset, .unset, .unset, .unset, .unset, .unset, .unset, .unset, .unset, .unset, .unset, .unset, .unset] [] := by first | (simp [entryFrame, mkF, argsToLocals, Value.category, maxLocals]; done) | rfl
theorem pd_1 : parseMethodDescriptor "(I)V" = some ⟨[.int], none⟩ := by decide +kernel
theorem pd_2 : parseMethodDescriptor "(ID)V" = some ⟨[.int, .double], none⟩ := by decide +kernel
theorem pd_3 : parseMethodDescriptor "(ILcom/example/narrow_bounds/narrowbounds/PreciseValues;)V" = some ⟨[.int, (.object "com/example/narrow_bounds/narrowbounds/PreciseValues")], none⟩ := by decide +kernel
theorem pd_4 : parseMethodDescriptor "(I)D" = some ⟨[.int], some .double⟩ := by decide +kernel
theorem pd_5 : parseMethodDescriptor "(ID)D" = some ⟨[.int, .double], some .double⟩ := by decide +kernel
theorem pn_PreciseValuesCopyPinLaw : plainName "com/example/narrow_bounds/narrowbounds/PreciseValuesCopyPinLaw" = true := by first | (simp [plainName, overriddenIn]; done) | decide +kernel

def own_err (a b z : UInt64) : UInt64 := FP.dadd (FP.dsub a (FP.dsub z (FP.dsub z a))) (FP.dsub b (FP.dsub z a))
def own_lo1 (h l v : UInt64) : UInt64 := FP.dadd l (own_err h v (FP.dadd h v))
def own_hi (h l v : UInt64) : UInt64 := FP.dadd (FP.dadd h v) (own_lo1 h l v)
def own_lo (h l v : UInt64) : UInt64 := own_err (FP.dadd h v) (own_lo1 h l v) (own_hi h l v)
def own_diff (h l v : UInt64) : UInt64 := FP.dadd (FP.dsub h v) (FP.dadd (own_err h (FP.dneg v) (FP.dsub h v)) l)
theorem own_sub_mag {K K' : Nat} {a b : UInt64} (ha : Mag64 K a) (hb : Mag64 K b) (hK : K ≤ 1500) (h : K + 2 ≤ K') : Mag64 K' (FP.dsub a b) := (dsub_mag ha hb (by omega)).mono h
theorem own_add_mag {K K' : Nat} {a b : UInt64} (ha : Mag64 K a) (hb : Mag64 K b) (hK : K ≤ 1500) (h : K + 2 ≤ K') : Mag64 K' (FP.dadd a b) := (dadd_mag ha hb (by omega)).mono h
theorem own_e1 {K : Nat} {a z : UInt64} (ha : Mag64 K a) (hz : Mag64 K z) (hK : K ≤ 1400) : Mag64 (K + 2) (FP.dsub z a) := own_sub_mag hz ha (by omega) (by omega)
theorem own_e2 {K : Nat} {a z : UInt64} (ha : Mag64 K a) (hz : Mag64 K z) (hK : K ≤ 1400) : Mag64 (K + 4) (FP.dsub z (FP.dsub z a)) := own_sub_mag (hz.mono (by omega)) (own_e1 ha hz hK) (by omega) (by omega)
theorem own_e3 {K : Nat} {a z : UInt64} (ha : Mag64 K a) (hz : Mag64 K z) (hK : K ≤ 1400) : Mag64 (K + 6) (FP.dsub a (FP.dsub z (FP.dsub z a))) := own_sub_mag (ha.mono (by omega)) (own_e2 ha hz hK) (by omega) (by omega)
theorem own_e4 {K : Nat} {a b z : UInt64} (ha : Mag64 K a) (hb : Mag64 K b) (hz : Mag64 K z) (hK : K ≤ 1400) : Mag64 (K + 4) (FP.dsub b (FP.dsub z a)) := own_sub_mag (hb.mono (by omega)) (own_e1 ha hz hK) (by omega) (by omega)
theorem own_err_mag {K : Nat} {a b z : UInt64} (ha : Mag64 K a) (hb : Mag64 K b) (hz : Mag64 K z) (hK : K ≤ 1400) : Mag64 (K + 8) (own_err a b z) := own_add_mag (own_e3 ha hz hK) ((own_e4 ha hb hz hK).mono (by omega)) (by omega) (by omega)
theorem own_nn {K : Nat} {a : UInt64} (h : Mag64 K a) (hK : K ≤ 2047) : NoNaN64 a := (h.fin hK).noNaN
section
variable {h l v : UInt64} (mh : Mag64 1200 h) (ml : Mag64 1200 l) (mv : Mag64 1200 v)
theorem own_s_mag (mh : Mag64 1200 h) (mv : Mag64 1200 v) : Mag64 1202 (FP.dadd h v) := own_add_mag mh mv (by decide) (by decide)
theorem own_e_mag (mh : Mag64 1200 h) (mv : Mag64 1200 v) : Mag64 1210 (own_err h v (FP.dadd h v)) := own_err_mag (mh.mono (by decide)) (mv.mono (by decide)) (own_s_mag mh mv) (by decide)
theorem own_lo1_mag (mh : Mag64 1200 h) (ml : Mag64 1200 l) (mv : Mag64 1200 v) : Mag64 1212 (own_lo1 h l v) := own_add_mag (ml.mono (by decide)) (own_e_mag mh mv) (by decide) (by decide)
theorem own_hi_mag (mh : Mag64 1200 h) (ml : Mag64 1200 l) (mv : Mag64 1200 v) : Mag64 1214 (own_hi h l v) := own_add_mag ((own_s_mag mh mv).mono (by decide)) (own_lo1_mag mh ml mv) (by decide) (by decide)
theorem own_lo_mag (mh : Mag64 1200 h) (ml : Mag64 1200 l) (mv : Mag64 1200 v) : Mag64 1222 (own_lo h l v) := own_err_mag ((own_s_mag mh mv).mono (by decide)) ((own_lo1_mag mh ml mv).mono (by decide)) (own_hi_mag mh ml mv) (by decide)
end
section
variable {h l v : UInt64}
theorem own_d1 (mh : Mag64 1222 h) (mv : Mag64 1222 v) : Mag64 1224 (FP.dsub h v) := own_sub_mag mh mv (by decide) (by decide)
theorem own_d2 (mh : Mag64 1222 h) (mv : Mag64 1222 v) : Mag64 1232 (own_err h (FP.dneg v) (FP.dsub h v)) := own_err_mag (mh.mono (by decide)) ((dneg_mag mv).mono (by decide)) (own_d1 mh mv) (by decide)
theorem own_d3 (mh : Mag64 1222 h) (ml : Mag64 1222 l) (mv : Mag64 1222 v) : Mag64 1234 (FP.dadd (own_err h (FP.dneg v) (FP.dsub h v)) l) := own_add_mag (own_d2 mh mv) (ml.mono (by decide)) (by decide) (by decide)
theorem own_d4 (mh : Mag64 1222 h) (ml : Mag64 1222 l) (mv : Mag64 1222 v) : Mag64 1236 (own_diff h l v) := own_add_mag ((own_d1 mh mv).mono (by decide)) (own_d3 mh ml mv) (by decide) (by decide)
end
theorem own_mag0 {K : Nat} (h : 1 ≤ K) : Mag64 K 0 := by show (0 : UInt64).toNat % 9223372036854775808 < K * 4503599627370496; rw [show (0 : UInt64).toNat % 9223372036854775808 = 0 from by decide]; omega
theorem own_i3 (p : Int32) : (p &&& 2147483647) - (p &&& 2147483647) / 3 * 3 = 0 ∨ (p &&& 2147483647) - (p &&& 2147483647) / 3 * 3 = 1 ∨ (p &&& 2147483647) - (p &&& 2147483647) / 3 * 3 = 2 := by
  have h := Kit.i32_mask p 2147483647 (k := 31) (by decide) (by decide)
  have h2 := i32_remN (x := p &&& 2147483647) (y := 3) (by omega)
  rw [show (3 : Int32).toInt = 3 by decide] at h2
  generalize ((p &&& 2147483647) - (p &&& 2147483647) / 3 * 3 : Int32) = z at h2 ⊢
  have q : z.toInt = 0 ∨ z.toInt = 1 ∨ z.toInt = 2 := by omega
  rcases q with q | q | q
  · exact Or.inl (i32_lit q (by decide))
  · exact Or.inr (Or.inl (i32_lit q (by decide)))
  · exact Or.inr (Or.inr (i32_lit q (by decide)))

set_option maxRecDepth 65536 in
set_option maxHeartbeats 40000000 in
theorem c_init (l : Launch) (Z : State) (a0 : Array Value) (hw : ∀ d ∈ tables_1, d.before a0 Z = true) (n0 : Nat) (a : Addr) (h0 : Heap) (F : List HRow) (H00 : Hp Z n0 h0 ((a, ObC Z "com/example/narrow_bounds/narrowbounds/PreciseValues" [("com/example/narrow_bounds/narrowbounds/PreciseValues", "highs", "[D", .null), ("com/example/narrow_bounds/narrowbounds/PreciseValues", "lows", "[D", .null)]) :: F)) :
    Con l Z n0 ⟨"com/example/narrow_bounds/narrowbounds/PreciseValues", "<init>", "(I)V"⟩ [] prog_34_method_1_code 2 none ({ frames := 1, cells := 2, slots := 6, locals := 12 } : Room) #[.ref a, .int (3 : Int32)] h0 (fun v h => ∃ ah al, v = none ∧ Hp Z n0 h ((a, ObC Z "com/example/narrow_bounds/narrowbounds/PreciseValues" [("com/example/narrow_bounds/narrowbounds/PreciseValues", "highs", "[D", .ref ah), ("com/example/narrow_bounds/narrowbounds/PreciseValues", "lows", "[D", .ref al)]) :: (ah, ArC Z .double [.double 0, .double 0, .double 0]) :: (al, ArC Z .double [.double 0, .double 0, .double 0]) :: F)) := by
  refine con_of (plainFor_of_name pn_PreciseValues) ?_
  intro p e s m below meth c T0 W0 e0
  have H0 : Hp Z n0 T0.heap ((a, ObC Z "com/example/narrow_bounds/narrowbounds/PreciseValues" [("com/example/narrow_bounds/narrowbounds/PreciseValues", "highs", "[D", .null), ("com/example/narrow_bounds/narrowbounds/PreciseValues", "lows", "[D", .null)]) :: F) := e0 ▸ H00
  refine g_cast (ef_1 m a (3 : Int32)) ?_
  refine g_aloadN W0 d1_0 (pc' := 1) rfl rfl rfl ?_
  refine g_initO W0 (wd_7 hw) (wd_8 hw) (wd_9 hw) H0 rfl d1_1 (pc' := 4) rfl (by decide) (Wn := 0) (Nat.le_of_eq rfl) (by decide) ?_
  intro T1 W1 H1
  refine g_aloadN W1 d1_4 (pc' := 5) rfl rfl rfl ?_
  refine g_iloadN W1 d1_5 (pc' := 6) rfl rfl ?_
  refine g_newarr (aty := .double) W1 (wd_10 hw) H1 (by decide) (vs := [.double 0, .double 0, .double 0]) rfl (cap := 3) (Nat.le_of_eq rfl) (by decide) d1_6 (pc' := 8) rfl (kc' := 1) (ks' := 3) rfl rfl (by decide) (by decide) ?_
  intro T2 a2 W2 H2
  replace H2 : Hp Z n0 T2.heap ((a2, ArC Z .double [.double 0, .double 0, .double 0]) :: (a, ObC Z "com/example/narrow_bounds/narrowbounds/PreciseValues" [("com/example/narrow_bounds/narrowbounds/PreciseValues", "highs", "[D", .null), ("com/example/narrow_bounds/narrowbounds/PreciseValues", "lows", "[D", .null)]) :: F) := H2
  refine g_putf W2 (wd_11 hw) Via.refl (Or.inr ⟨(wd_12 hw), rfl, rfl⟩) (wd_2 hw) (ty := (.array .double)) (by decide) rfl rfl H2 (i := 1) rfl (jx := 0) rfl d1_8 (pc' := 11) rfl (L' := ((a2, ArC Z .double [.double 0, .double 0, .double 0]) :: (a, ObC Z "com/example/narrow_bounds/narrowbounds/PreciseValues" [("com/example/narrow_bounds/narrowbounds/PreciseValues", "highs", "[D", .ref a2), ("com/example/narrow_bounds/narrowbounds/PreciseValues", "lows", "[D", .null)]) :: F)) rfl ?_
  intro T3 W3 H3
  refine g_aloadN W3 d1_11 (pc' := 12) rfl rfl rfl ?_
  refine g_iloadN W3 d1_12 (pc' := 13) rfl rfl ?_
  refine g_newarr (aty := .double) W3 (wd_10 hw) H3 (by decide) (vs := [.double 0, .double 0, .double 0]) rfl (cap := 3) (Nat.le_of_eq rfl) (by decide) d1_13 (pc' := 15) rfl (kc' := 2) (ks' := 6) rfl rfl (by decide) (by decide) ?_
  intro T4 a4 W4 H4
  replace H4 : Hp Z n0 T4.heap ((a4, ArC Z .double [.double 0, .double 0, .double 0]) :: (a2, ArC Z .double [.double 0, .double 0, .double 0]) :: (a, ObC Z "com/example/narrow_bounds/narrowbounds/PreciseValues" [("com/example/narrow_bounds/narrowbounds/PreciseValues", "highs", "[D", .ref a2), ("com/example/narrow_bounds/narrowbounds/PreciseValues", "lows", "[D", .null)]) :: F) := H4
  refine g_putf W4 (wd_13 hw) Via.refl (Or.inr ⟨(wd_14 hw), rfl, rfl⟩) (wd_2 hw) (ty := (.array .double)) (by decide) rfl rfl H4 (i := 2) rfl (jx := 1) rfl d1_15 (pc' := 18) rfl (L' := ((a4, ArC Z .double [.double 0, .double 0, .double 0]) :: (a2, ArC Z .double [.double 0, .double 0, .double 0]) :: (a, ObC Z "com/example/narrow_bounds/narrowbounds/PreciseValues" [("com/example/narrow_bounds/narrowbounds/PreciseValues", "highs", "[D", .ref a2), ("com/example/narrow_bounds/narrowbounds/PreciseValues", "lows", "[D", .ref a4)]) :: F)) rfl ?_
  intro T5 W5 H5
  have H6f : Hp Z n0 T5.heap ((a2, ArC Z .double [.double 0, .double 0, .double 0]) :: (a4, ArC Z .double [.double 0, .double 0, .double 0]) :: (a, ObC Z "com/example/narrow_bounds/narrowbounds/PreciseValues" [("com/example/narrow_bounds/narrowbounds/PreciseValues", "highs", "[D", .ref a2), ("com/example/narrow_bounds/narrowbounds/PreciseValues", "lows", "[D", .ref a4)]) :: F) := H5.front (i := 1) rfl rfl
  have H7f : Hp Z n0 T5.heap ((a, ObC Z "com/example/narrow_bounds/narrowbounds/PreciseValues" [("com/example/narrow_bounds/narrowbounds/PreciseValues", "highs", "[D", .ref a2), ("com/example/narrow_bounds/narrowbounds/PreciseValues", "lows", "[D", .ref a4)]) :: (a2, ArC Z .double [.double 0, .double 0, .double 0]) :: (a4, ArC Z .double [.double 0, .double 0, .double 0]) :: F) := H6f.front (i := 2) rfl rfl
  exact g_return W5 d1_18 ⟨_, _, rfl, H7f⟩ (by decide) (by decide)
set_option maxRecDepth 65536 in
set_option maxHeartbeats 40000000 in
theorem c_err (l : Launch) (Z : State) (a0 : Array Value) (hw : ∀ d ∈ tables_1, d.before a0 Z = true) (n0 : Nat) (a b z : UInt64) (K : Nat) (ha : Mag64 K a) (hb : Mag64 K b) (hz : Mag64 K z) (hK : K ≤ 1400) (h0 : Heap) (F : List HRow) (H00 : Hp Z n0 h0 F) :
    Con l Z n0 ⟨"com/example/narrow_bounds/narrowbounds/PreciseValues", "error", "(DDD)D"⟩ [] prog_34_method_15_code 10 (some .double) ({ frames := 0, cells := 0, slots := 0, locals := 0 } : Room) #[.double a, .double b, .double z] h0 (fun v h => v = some (.double (own_err a b z)) ∧ Hp Z n0 h F) := by
  refine con_of (plainFor_of_name pn_PreciseValues) ?_
  intro p e s m below meth c T0 W0 e0
  have H0 : Hp Z n0 T0.heap F := e0 ▸ H00
  refine g_cast (ef_5 m a b z) ?_
  refine g_dload W0 d5_0 (pc' := 2) rfl rfl ?_
  refine g_dloadN W0 d5_2 (pc' := 3) rfl rfl ?_
  refine g_dsub W0 d5_3 (pc' := 4) rfl rfl (own_nn (own_e1 ha hz hK) (by omega)) ?_
  refine g_dstore W0 d5_4 (pc' := 6) rfl (ls' := #[.val (.double a), .second, .val (.double b), .second, .val (.double z), .second, .val (.double (FP.dsub z a)), .second, .unset, .unset]) rfl ?_
  refine g_dload W0 d5_6 (pc' := 8) rfl rfl ?_
  refine g_dload W0 d5_8 (pc' := 10) rfl rfl ?_
  refine g_dsub W0 d5_10 (pc' := 11) rfl rfl (own_nn (own_e2 ha hz hK) (by omega)) ?_
  refine g_dstore W0 d5_11 (pc' := 13) rfl (ls' := #[.val (.double a), .second, .val (.double b), .second, .val (.double z), .second, .val (.double (FP.dsub z a)), .second, .val (.double (FP.dsub z (FP.dsub z a))), .second]) rfl ?_
  refine g_dloadN W0 d5_13 (pc' := 14) rfl rfl ?_
  refine g_dload W0 d5_14 (pc' := 16) rfl rfl ?_
  refine g_dsub W0 d5_16 (pc' := 17) rfl rfl (own_nn (own_e3 ha hz hK) (by omega)) ?_
  refine g_dloadN W0 d5_17 (pc' := 18) rfl rfl ?_
  refine g_dload W0 d5_18 (pc' := 20) rfl rfl ?_
  refine g_dsub W0 d5_20 (pc' := 21) rfl rfl (own_nn (own_e4 ha hb hz hK) (by omega)) ?_
  refine g_dadd W0 d5_21 (pc' := 22) rfl rfl (own_nn (own_err_mag ha hb hz hK) (by omega)) ?_
  exact g_dreturn W0 d5_22 ⟨rfl, H0⟩ (by decide) (by decide)
set_option maxRecDepth 65536 in
set_option maxHeartbeats 40000000 in
theorem c_set (l : Launch) (Z : State) (a0 : Array Value) (hw : ∀ d ∈ tables_1, d.before a0 Z = true) (n0 : Nat) (a ah al : Addr) (vs us : List Value) (i : Int32) (ix : Nat) (hi : i.toInt = (ix : Int)) (hv : ix < vs.length) (hu : ix < us.length) (d : UInt64) (h0 : Heap) (F : List HRow) (H00 : Hp Z n0 h0 ((a, ObC Z "com/example/narrow_bounds/narrowbounds/PreciseValues" [("com/example/narrow_bounds/narrowbounds/PreciseValues", "highs", "[D", .ref ah), ("com/example/narrow_bounds/narrowbounds/PreciseValues", "lows", "[D", .ref al)]) :: (ah, ArC Z .double vs) :: (al, ArC Z .double us) :: F)) :
    Con l Z n0 ⟨"com/example/narrow_bounds/narrowbounds/PreciseValues", "set", "(ID)V"⟩ [] prog_34_method_2_code 4 none ({ frames := 0, cells := 0, slots := 0, locals := 0 } : Room) #[.ref a, .int i, .double d] h0 (fun v h => v = none ∧ Hp Z n0 h ((a, ObC Z "com/example/narrow_bounds/narrowbounds/PreciseValues" [("com/example/narrow_bounds/narrowbounds/PreciseValues", "highs", "[D", .ref ah), ("com/example/narrow_bounds/narrowbounds/PreciseValues", "lows", "[D", .ref al)]) :: (ah, ArC Z .double (vs.set ix (.double d))) :: (al, ArC Z .double (us.set ix (.double 0))) :: F)) := by
  refine con_of (plainFor_of_name pn_PreciseValues) ?_
  intro p e s m below meth c T0 W0 e0
  have H0 : Hp Z n0 T0.heap ((a, ObC Z "com/example/narrow_bounds/narrowbounds/PreciseValues" [("com/example/narrow_bounds/narrowbounds/PreciseValues", "highs", "[D", .ref ah), ("com/example/narrow_bounds/narrowbounds/PreciseValues", "lows", "[D", .ref al)]) :: (ah, ArC Z .double vs) :: (al, ArC Z .double us) :: F) := e0 ▸ H00
  refine g_cast (ef_3 m a i d) ?_
  refine g_aloadN W0 d3_0 (pc' := 1) rfl rfl rfl ?_
  refine g_getf W0 (wd_11 hw) Via.refl H0 (i := 0) rfl (jx := 0) rfl d3_1 (pc' := 4) rfl ?_
  intro T1 W1 H1
  refine g_iloadN W1 d3_4 (pc' := 5) rfl rfl ?_
  refine g_dloadN W1 d3_5 (pc' := 6) rfl rfl ?_
  refine g_dastore W1 H1 (i := 1) rfl (jx := ix) hi hv d3_6 (pc' := 7) rfl (L' := ((a, ObC Z "com/example/narrow_bounds/narrowbounds/PreciseValues" [("com/example/narrow_bounds/narrowbounds/PreciseValues", "highs", "[D", .ref ah), ("com/example/narrow_bounds/narrowbounds/PreciseValues", "lows", "[D", .ref al)]) :: (ah, ArC Z .double (vs.set ix (.double d))) :: (al, ArC Z .double us) :: F)) rfl ?_
  intro T2 W2 H2
  refine g_aloadN W2 d3_7 (pc' := 8) rfl rfl rfl ?_
  refine g_getf W2 (wd_13 hw) Via.refl H2 (i := 0) rfl (jx := 1) rfl d3_8 (pc' := 11) rfl ?_
  intro T3 W3 H3
  refine g_iloadN W3 d3_11 (pc' := 12) rfl rfl ?_
  refine g_dconst0 W3 d3_12 (pc' := 13) rfl ?_
  refine g_dastore W3 H3 (i := 2) rfl (jx := ix) hi hu d3_13 (pc' := 14) rfl (L' := ((a, ObC Z "com/example/narrow_bounds/narrowbounds/PreciseValues" [("com/example/narrow_bounds/narrowbounds/PreciseValues", "highs", "[D", .ref ah), ("com/example/narrow_bounds/narrowbounds/PreciseValues", "lows", "[D", .ref al)]) :: (ah, ArC Z .double (vs.set ix (.double d))) :: (al, ArC Z .double (us.set ix (.double 0))) :: F)) rfl ?_
  intro T4 W4 H4
  exact g_return W4 d3_14 ⟨rfl, H4⟩ (by decide) (by decide)
set_option maxRecDepth 65536 in
set_option maxHeartbeats 40000000 in
theorem c_add (l : Launch) (Z : State) (a0 : Array Value) (hw : ∀ d ∈ tables_1, d.before a0 Z = true) (n0 : Nat) (a ah al : Addr) (vs us : List Value) (i : Int32) (ix : Nat) (hi : i.toInt = (ix : Int)) (h lw : UInt64) (hv : vs[ix]? = some (.double h)) (hu : us[ix]? = some (.double lw)) (d : UInt64) (mh : Mag64 1200 h) (ml : Mag64 1200 lw) (md : Mag64 1200 d) (h0 : Heap) (F : List HRow) (H00 : Hp Z n0 h0 ((a, ObC Z "com/example/narrow_bounds/narrowbounds/PreciseValues" [("com/example/narrow_bounds/narrowbounds/PreciseValues", "highs", "[D", .ref ah), ("com/example/narrow_bounds/narrowbounds/PreciseValues", "lows", "[D", .ref al)]) :: (ah, ArC Z .double vs) :: (al, ArC Z .double us) :: F)) :
    Con l Z n0 ⟨"com/example/narrow_bounds/narrowbounds/PreciseValues", "add", "(ID)V"⟩ [] prog_34_method_4_code 10 none ({ frames := 1, cells := 0, slots := 0, locals := 23 } : Room) #[.ref a, .int i, .double d] h0 (fun v h1 => v = none ∧ Hp Z n0 h1 ((a, ObC Z "com/example/narrow_bounds/narrowbounds/PreciseValues" [("com/example/narrow_bounds/narrowbounds/PreciseValues", "highs", "[D", .ref ah), ("com/example/narrow_bounds/narrowbounds/PreciseValues", "lows", "[D", .ref al)]) :: (ah, ArC Z .double (vs.set ix (.double (own_hi h lw d)))) :: (al, ArC Z .double (us.set ix (.double (own_lo h lw d)))) :: F)) := by
  refine con_of (plainFor_of_name pn_PreciseValues) ?_
  intro p e s m below meth c T0 W0 e0
  have H0 : Hp Z n0 T0.heap ((a, ObC Z "com/example/narrow_bounds/narrowbounds/PreciseValues" [("com/example/narrow_bounds/narrowbounds/PreciseValues", "highs", "[D", .ref ah), ("com/example/narrow_bounds/narrowbounds/PreciseValues", "lows", "[D", .ref al)]) :: (ah, ArC Z .double vs) :: (al, ArC Z .double us) :: F) := e0 ▸ H00
  refine g_cast (ef_4 m a i d) ?_
  refine g_aloadN W0 d4_0 (pc' := 1) rfl rfl rfl ?_
  refine g_getf W0 (wd_11 hw) Via.refl H0 (i := 0) rfl (jx := 0) rfl d4_1 (pc' := 4) rfl ?_
  intro T1 W1 H1
  refine g_iloadN W1 d4_4 (pc' := 5) rfl rfl ?_
  refine g_daload W1 H1 (i := 1) rfl (jx := ix) hi (v := .double h) hv d4_5 (pc' := 6) rfl ?_
  refine g_dloadN W1 d4_6 (pc' := 7) rfl rfl ?_
  refine g_dadd W1 d4_7 (pc' := 8) rfl rfl (own_nn (own_s_mag mh md) (by decide)) ?_
  refine g_dstore W1 d4_8 (pc' := 10) rfl (ls' := #[.val (.ref a), .val (.int i), .val (.double d), .second, .val (.double (FP.dadd h d)), .second, .unset, .unset, .unset, .unset]) rfl ?_
  refine g_aloadN W1 d4_10 (pc' := 11) rfl rfl rfl ?_
  refine g_getf W1 (wd_13 hw) Via.refl H1 (i := 0) rfl (jx := 1) rfl d4_11 (pc' := 14) rfl ?_
  intro T2 W2 H2
  refine g_iloadN W2 d4_14 (pc' := 15) rfl rfl ?_
  refine g_daload W2 H2 (i := 2) rfl (jx := ix) hi (v := .double lw) hu d4_15 (pc' := 16) rfl ?_
  refine g_aloadN W2 d4_16 (pc' := 17) rfl rfl rfl ?_
  refine g_getf W2 (wd_11 hw) Via.refl H2 (i := 0) rfl (jx := 0) rfl d4_17 (pc' := 20) rfl ?_
  intro T3 W3 H3
  refine g_iloadN W3 d4_20 (pc' := 21) rfl rfl ?_
  refine g_daload W3 H3 (i := 1) rfl (jx := ix) hi (v := .double h) hv d4_21 (pc' := 22) rfl ?_
  refine g_dloadN W3 d4_22 (pc' := 23) rfl rfl ?_
  refine g_dload W3 d4_23 (pc' := 25) rfl rfl ?_
  refine g_callS W3 (argsL := [.double h, .double d, .double (FP.dadd h d)]) (st := [.double lw]) (wd_25 hw) (wd_26 hw) (wd_3 hw) (wd_27 hw) (by decide) (c_err l Z a0 hw n0 h d (FP.dadd h d) 1202 (mh.mono (by decide)) (md.mono (by decide)) (own_s_mag mh md) (by decide) _ _ H3) pd_0 rfl rfl rfl d4_25 (pc' := 28) rfl (by decide) (Wn := 2) (Nat.le_of_eq rfl) (by decide) (kc' := 0) (ks' := 0) rfl rfl (by decide) (by decide) ?_
  intro T4 v4 W4 hp4
  obtain ⟨rfl, H4⟩ := hp4
  show Goes p e below _ (T4.setTop (mkF m 28 #[.val (.ref a), .val (.int i), .val (.double d), .second, .val (.double (FP.dadd h d)), .second, .unset, .unset, .unset, .unset] [.double (own_err h d (FP.dadd h d)), .double lw]))
  refine g_dadd W4 d4_28 (pc' := 29) rfl rfl (own_nn (own_lo1_mag mh ml md) (by decide)) ?_
  refine g_dstore W4 d4_29 (pc' := 31) rfl (ls' := #[.val (.ref a), .val (.int i), .val (.double d), .second, .val (.double (FP.dadd h d)), .second, .val (.double (FP.dadd lw (own_err h d (FP.dadd h d)))), .second, .unset, .unset]) rfl ?_
  refine g_dload W4 d4_31 (pc' := 33) rfl rfl ?_
  refine g_dload W4 d4_33 (pc' := 35) rfl rfl ?_
  refine g_dadd W4 d4_35 (pc' := 36) rfl rfl (own_nn (own_hi_mag mh ml md) (by decide)) ?_
  refine g_dstore W4 d4_36 (pc' := 38) rfl (ls' := #[.val (.ref a), .val (.int i), .val (.double d), .second, .val (.double (FP.dadd h d)), .second, .val (.double (FP.dadd lw (own_err h d (FP.dadd h d)))), .second, .val (.double (FP.dadd (FP.dadd h d) (FP.dadd lw (own_err h d (FP.dadd h d))))), .second]) rfl ?_
  refine g_aloadN W4 d4_38 (pc' := 39) rfl rfl rfl ?_
  refine g_getf W4 (wd_11 hw) Via.refl H4 (i := 0) rfl (jx := 0) rfl d4_39 (pc' := 42) rfl ?_
  intro T5 W5 H5
  refine g_iloadN W5 d4_42 (pc' := 43) rfl rfl ?_
  refine g_dload W5 d4_43 (pc' := 45) rfl rfl ?_
  refine g_dastore W5 H5 (i := 1) rfl (jx := ix) hi (List.getElem?_eq_some_iff.mp hv).1 d4_45 (pc' := 46) rfl (L' := ((a, ObC Z "com/example/narrow_bounds/narrowbounds/PreciseValues" [("com/example/narrow_bounds/narrowbounds/PreciseValues", "highs", "[D", .ref ah), ("com/example/narrow_bounds/narrowbounds/PreciseValues", "lows", "[D", .ref al)]) :: (ah, ArC Z .double (vs.set ix (.double (own_hi h lw d)))) :: (al, ArC Z .double us) :: F)) rfl ?_
  intro T6 W6 H6
  refine g_aloadN W6 d4_46 (pc' := 47) rfl rfl rfl ?_
  refine g_getf W6 (wd_13 hw) Via.refl H6 (i := 0) rfl (jx := 1) rfl d4_47 (pc' := 50) rfl ?_
  intro T7 W7 H7
  refine g_iloadN W7 d4_50 (pc' := 51) rfl rfl ?_
  refine g_dload W7 d4_51 (pc' := 53) rfl rfl ?_
  refine g_dload W7 d4_53 (pc' := 55) rfl rfl ?_
  refine g_dload W7 d4_55 (pc' := 57) rfl rfl ?_
  refine g_callS W7 (argsL := [.double (FP.dadd h d), .double (FP.dadd lw (own_err h d (FP.dadd h d))), .double (FP.dadd (FP.dadd h d) (FP.dadd lw (own_err h d (FP.dadd h d))))]) (st := [.int i, .ref al]) (wd_25 hw) (wd_26 hw) (wd_3 hw) (wd_27 hw) (by decide) (c_err l Z a0 hw n0 (FP.dadd h d) (FP.dadd lw (own_err h d (FP.dadd h d))) (FP.dadd (FP.dadd h d) (FP.dadd lw (own_err h d (FP.dadd h d)))) 1214 ((own_s_mag mh md).mono (by decide)) ((own_lo1_mag mh ml md).mono (by decide)) (own_hi_mag mh ml md) (by decide) _ _ H7) pd_0 rfl rfl rfl d4_57 (pc' := 60) rfl (by decide) (Wn := 2) (Nat.le_of_eq rfl) (by decide) (kc' := 0) (ks' := 0) rfl rfl (by decide) (by decide) ?_
  intro T8 v8 W8 hp8
  obtain ⟨rfl, H8⟩ := hp8
  show Goes p e below _ (T8.setTop (mkF m 60 #[.val (.ref a), .val (.int i), .val (.double d), .second, .val (.double (FP.dadd h d)), .second, .val (.double (FP.dadd lw (own_err h d (FP.dadd h d)))), .second, .val (.double (FP.dadd (FP.dadd h d) (FP.dadd lw (own_err h d (FP.dadd h d))))), .second] [.double (own_err (FP.dadd h d) (FP.dadd lw (own_err h d (FP.dadd h d))) (FP.dadd (FP.dadd h d) (FP.dadd lw (own_err h d (FP.dadd h d))))), .int i, .ref al]))
  refine g_dastore W8 H8 (i := 2) rfl (jx := ix) hi (List.getElem?_eq_some_iff.mp hu).1 d4_60 (pc' := 61) rfl (L' := ((a, ObC Z "com/example/narrow_bounds/narrowbounds/PreciseValues" [("com/example/narrow_bounds/narrowbounds/PreciseValues", "highs", "[D", .ref ah), ("com/example/narrow_bounds/narrowbounds/PreciseValues", "lows", "[D", .ref al)]) :: (ah, ArC Z .double (vs.set ix (.double (own_hi h lw d)))) :: (al, ArC Z .double (us.set ix (.double (own_lo h lw d)))) :: F)) rfl ?_
  intro T9 W9 H9
  exact g_return W9 d4_61 ⟨rfl, H9⟩ (by decide) (by decide)
set_option maxRecDepth 65536 in
set_option maxHeartbeats 40000000 in
theorem c_copy (l : Launch) (Z : State) (a0 : Array Value) (hw : ∀ d ∈ tables_1, d.before a0 Z = true) (n0 : Nat) (a ah al b bh bl : Addr) (vs us xs ys : List Value) (i : Int32) (ix : Nat) (hi : i.toInt = (ix : Int)) (hv : ix < vs.length) (hu : ix < us.length) (h lw : UInt64) (hx : xs[ix]? = some (.double h)) (hy : ys[ix]? = some (.double lw)) (h0 : Heap) (F : List HRow) (H00 : Hp Z n0 h0 ((a, ObC Z "com/example/narrow_bounds/narrowbounds/PreciseValues" [("com/example/narrow_bounds/narrowbounds/PreciseValues", "highs", "[D", .ref ah), ("com/example/narrow_bounds/narrowbounds/PreciseValues", "lows", "[D", .ref al)]) :: (ah, ArC Z .double vs) :: (al, ArC Z .double us) :: (b, ObC Z "com/example/narrow_bounds/narrowbounds/PreciseValues" [("com/example/narrow_bounds/narrowbounds/PreciseValues", "highs", "[D", .ref bh), ("com/example/narrow_bounds/narrowbounds/PreciseValues", "lows", "[D", .ref bl)]) :: (bh, ArC Z .double xs) :: (bl, ArC Z .double ys) :: F)) :
    Con l Z n0 ⟨"com/example/narrow_bounds/narrowbounds/PreciseValues", "copy", "(ILcom/example/narrow_bounds/narrowbounds/PreciseValues;)V"⟩ [] prog_34_method_3_code 3 none ({ frames := 0, cells := 0, slots := 0, locals := 0 } : Room) #[.ref a, .int i, .ref b] h0 (fun v h1 => v = none ∧ Hp Z n0 h1 ((a, ObC Z "com/example/narrow_bounds/narrowbounds/PreciseValues" [("com/example/narrow_bounds/narrowbounds/PreciseValues", "highs", "[D", .ref ah), ("com/example/narrow_bounds/narrowbounds/PreciseValues", "lows", "[D", .ref al)]) :: (ah, ArC Z .double (vs.set ix (.double h))) :: (al, ArC Z .double (us.set ix (.double lw))) :: (b, ObC Z "com/example/narrow_bounds/narrowbounds/PreciseValues" [("com/example/narrow_bounds/narrowbounds/PreciseValues", "highs", "[D", .ref bh), ("com/example/narrow_bounds/narrowbounds/PreciseValues", "lows", "[D", .ref bl)]) :: (bh, ArC Z .double xs) :: (bl, ArC Z .double ys) :: F)) := by
  refine con_of (plainFor_of_name pn_PreciseValues) ?_
  intro p e s m below meth c T0 W0 e0
  have H0 : Hp Z n0 T0.heap ((a, ObC Z "com/example/narrow_bounds/narrowbounds/PreciseValues" [("com/example/narrow_bounds/narrowbounds/PreciseValues", "highs", "[D", .ref ah), ("com/example/narrow_bounds/narrowbounds/PreciseValues", "lows", "[D", .ref al)]) :: (ah, ArC Z .double vs) :: (al, ArC Z .double us) :: (b, ObC Z "com/example/narrow_bounds/narrowbounds/PreciseValues" [("com/example/narrow_bounds/narrowbounds/PreciseValues", "highs", "[D", .ref bh), ("com/example/narrow_bounds/narrowbounds/PreciseValues", "lows", "[D", .ref bl)]) :: (bh, ArC Z .double xs) :: (bl, ArC Z .double ys) :: F) := e0 ▸ H00
  refine g_cast (ef_6 m a i b) ?_
  refine g_aloadN W0 d6_0 (pc' := 1) rfl rfl rfl ?_
  refine g_getf W0 (wd_11 hw) Via.refl H0 (i := 0) rfl (jx := 0) rfl d6_1 (pc' := 4) rfl ?_
  intro T1 W1 H1
  refine g_iloadN W1 d6_4 (pc' := 5) rfl rfl ?_
  refine g_aloadN W1 d6_5 (pc' := 6) rfl rfl rfl ?_
  refine g_getf W1 (wd_11 hw) Via.refl H1 (i := 3) rfl (jx := 0) rfl d6_6 (pc' := 9) rfl ?_
  intro T2 W2 H2
  refine g_iloadN W2 d6_9 (pc' := 10) rfl rfl ?_
  refine g_daload W2 H2 (i := 4) rfl (jx := ix) hi (v := .double h) hx d6_10 (pc' := 11) rfl ?_
  refine g_dastore W2 H2 (i := 1) rfl (jx := ix) hi hv d6_11 (pc' := 12) rfl (L' := ((a, ObC Z "com/example/narrow_bounds/narrowbounds/PreciseValues" [("com/example/narrow_bounds/narrowbounds/PreciseValues", "highs", "[D", .ref ah), ("com/example/narrow_bounds/narrowbounds/PreciseValues", "lows", "[D", .ref al)]) :: (ah, ArC Z .double (vs.set ix (.double h))) :: (al, ArC Z .double us) :: (b, ObC Z "com/example/narrow_bounds/narrowbounds/PreciseValues" [("com/example/narrow_bounds/narrowbounds/PreciseValues", "highs", "[D", .ref bh), ("com/example/narrow_bounds/narrowbounds/PreciseValues", "lows", "[D", .ref bl)]) :: (bh, ArC Z .double xs) :: (bl, ArC Z .double ys) :: F)) rfl ?_
  intro T3 W3 H3
  refine g_aloadN W3 d6_12 (pc' := 13) rfl rfl rfl ?_
  refine g_getf W3 (wd_13 hw) Via.refl H3 (i := 0) rfl (jx := 1) rfl d6_13 (pc' := 16) rfl ?_
  intro T4 W4 H4
  refine g_iloadN W4 d6_16 (pc' := 17) rfl rfl ?_
  refine g_aloadN W4 d6_17 (pc' := 18) rfl rfl rfl ?_
  refine g_getf W4 (wd_13 hw) Via.refl H4 (i := 3) rfl (jx := 1) rfl d6_18 (pc' := 21) rfl ?_
  intro T5 W5 H5
  refine g_iloadN W5 d6_21 (pc' := 22) rfl rfl ?_
  refine g_daload W5 H5 (i := 5) rfl (jx := ix) hi (v := .double lw) hy d6_22 (pc' := 23) rfl ?_
  refine g_dastore W5 H5 (i := 2) rfl (jx := ix) hi hu d6_23 (pc' := 24) rfl (L' := ((a, ObC Z "com/example/narrow_bounds/narrowbounds/PreciseValues" [("com/example/narrow_bounds/narrowbounds/PreciseValues", "highs", "[D", .ref ah), ("com/example/narrow_bounds/narrowbounds/PreciseValues", "lows", "[D", .ref al)]) :: (ah, ArC Z .double (vs.set ix (.double h))) :: (al, ArC Z .double (us.set ix (.double lw))) :: (b, ObC Z "com/example/narrow_bounds/narrowbounds/PreciseValues" [("com/example/narrow_bounds/narrowbounds/PreciseValues", "highs", "[D", .ref bh), ("com/example/narrow_bounds/narrowbounds/PreciseValues", "lows", "[D", .ref bl)]) :: (bh, ArC Z .double xs) :: (bl, ArC Z .double ys) :: F)) rfl ?_
  intro T6 W6 H6
  exact g_return W6 d6_24 ⟨rfl, H6⟩ (by decide) (by decide)
set_option maxRecDepth 65536 in
set_option maxHeartbeats 40000000 in
theorem c_near (l : Launch) (Z : State) (a0 : Array Value) (hw : ∀ d ∈ tables_1, d.before a0 Z = true) (n0 : Nat) (a ah al : Addr) (vs us : List Value) (i : Int32) (ix : Nat) (hi : i.toInt = (ix : Int)) (h : UInt64) (hv : vs[ix]? = some (.double h)) (h0 : Heap) (F : List HRow) (H00 : Hp Z n0 h0 ((a, ObC Z "com/example/narrow_bounds/narrowbounds/PreciseValues" [("com/example/narrow_bounds/narrowbounds/PreciseValues", "highs", "[D", .ref ah), ("com/example/narrow_bounds/narrowbounds/PreciseValues", "lows", "[D", .ref al)]) :: (ah, ArC Z .double vs) :: (al, ArC Z .double us) :: F)) :
    Con l Z n0 ⟨"com/example/narrow_bounds/narrowbounds/PreciseValues", "nearest", "(I)D"⟩ [] prog_34_method_5_code 2 (some .double) ({ frames := 0, cells := 0, slots := 0, locals := 0 } : Room) #[.ref a, .int i] h0 (fun v h1 => v = some (.double h) ∧ Hp Z n0 h1 ((a, ObC Z "com/example/narrow_bounds/narrowbounds/PreciseValues" [("com/example/narrow_bounds/narrowbounds/PreciseValues", "highs", "[D", .ref ah), ("com/example/narrow_bounds/narrowbounds/PreciseValues", "lows", "[D", .ref al)]) :: (ah, ArC Z .double vs) :: (al, ArC Z .double us) :: F)) := by
  refine con_of (plainFor_of_name pn_PreciseValues) ?_
  intro p e s m below meth c T0 W0 e0
  have H0 : Hp Z n0 T0.heap ((a, ObC Z "com/example/narrow_bounds/narrowbounds/PreciseValues" [("com/example/narrow_bounds/narrowbounds/PreciseValues", "highs", "[D", .ref ah), ("com/example/narrow_bounds/narrowbounds/PreciseValues", "lows", "[D", .ref al)]) :: (ah, ArC Z .double vs) :: (al, ArC Z .double us) :: F) := e0 ▸ H00
  refine g_cast (ef_7 m a i) ?_
  refine g_aloadN W0 d7_0 (pc' := 1) rfl rfl rfl ?_
  refine g_getf W0 (wd_11 hw) Via.refl H0 (i := 0) rfl (jx := 0) rfl d7_1 (pc' := 4) rfl ?_
  intro T1 W1 H1
  refine g_iloadN W1 d7_4 (pc' := 5) rfl rfl ?_
  refine g_daload W1 H1 (i := 1) rfl (jx := ix) hi (v := .double h) hv d7_5 (pc' := 6) rfl ?_
  exact g_dreturn W1 d7_6 ⟨rfl, H1⟩ (by decide) (by decide)
set_option maxRecDepth 65536 in
set_option maxHeartbeats 40000000 in
theorem c_diff (l : Launch) (Z : State) (a0 : Array Value) (hw : ∀ d ∈ tables_1, d.before a0 Z = true) (n0 : Nat) (a ah al : Addr) (vs us : List Value) (i : Int32) (ix : Nat) (hi : i.toInt = (ix : Int)) (h lw : UInt64) (hv : vs[ix]? = some (.double h)) (hu : us[ix]? = some (.double lw)) (d : UInt64) (mh : Mag64 1222 h) (ml : Mag64 1222 lw) (md : Mag64 1222 d) (h0 : Heap) (F : List HRow) (H00 : Hp Z n0 h0 ((a, ObC Z "com/example/narrow_bounds/narrowbounds/PreciseValues" [("com/example/narrow_bounds/narrowbounds/PreciseValues", "highs", "[D", .ref ah), ("com/example/narrow_bounds/narrowbounds/PreciseValues", "lows", "[D", .ref al)]) :: (ah, ArC Z .double vs) :: (al, ArC Z .double us) :: F)) :
    Con l Z n0 ⟨"com/example/narrow_bounds/narrowbounds/PreciseValues", "difference", "(ID)D"⟩ [] prog_34_method_11_code 6 (some .double) ({ frames := 1, cells := 0, slots := 0, locals := 23 } : Room) #[.ref a, .int i, .double d] h0 (fun v h1 => v = some (.double (own_diff h lw d)) ∧ Hp Z n0 h1 ((a, ObC Z "com/example/narrow_bounds/narrowbounds/PreciseValues" [("com/example/narrow_bounds/narrowbounds/PreciseValues", "highs", "[D", .ref ah), ("com/example/narrow_bounds/narrowbounds/PreciseValues", "lows", "[D", .ref al)]) :: (ah, ArC Z .double vs) :: (al, ArC Z .double us) :: F)) := by
  refine con_of (plainFor_of_name pn_PreciseValues) ?_
  intro p e s m below meth c T0 W0 e0
  have H0 : Hp Z n0 T0.heap ((a, ObC Z "com/example/narrow_bounds/narrowbounds/PreciseValues" [("com/example/narrow_bounds/narrowbounds/PreciseValues", "highs", "[D", .ref ah), ("com/example/narrow_bounds/narrowbounds/PreciseValues", "lows", "[D", .ref al)]) :: (ah, ArC Z .double vs) :: (al, ArC Z .double us) :: F) := e0 ▸ H00
  refine g_cast (ef_8 m a i d) ?_
  refine g_aloadN W0 d8_0 (pc' := 1) rfl rfl rfl ?_
  refine g_getf W0 (wd_11 hw) Via.refl H0 (i := 0) rfl (jx := 0) rfl d8_1 (pc' := 4) rfl ?_
  intro T1 W1 H1
  refine g_iloadN W1 d8_4 (pc' := 5) rfl rfl ?_
  refine g_daload W1 H1 (i := 1) rfl (jx := ix) hi (v := .double h) hv d8_5 (pc' := 6) rfl ?_
  refine g_dloadN W1 d8_6 (pc' := 7) rfl rfl ?_
  refine g_dsub W1 d8_7 (pc' := 8) rfl rfl (own_nn (own_d1 mh md) (by decide)) ?_
  refine g_dstore W1 d8_8 (pc' := 10) rfl (ls' := #[.val (.ref a), .val (.int i), .val (.double d), .second, .val (.double (FP.dsub h d)), .second]) rfl ?_
  refine g_dload W1 d8_10 (pc' := 12) rfl rfl ?_
  refine g_aloadN W1 d8_12 (pc' := 13) rfl rfl rfl ?_
  refine g_getf W1 (wd_11 hw) Via.refl H1 (i := 0) rfl (jx := 0) rfl d8_13 (pc' := 16) rfl ?_
  intro T2 W2 H2
  refine g_iloadN W2 d8_16 (pc' := 17) rfl rfl ?_
  refine g_daload W2 H2 (i := 1) rfl (jx := ix) hi (v := .double h) hv d8_17 (pc' := 18) rfl ?_
  refine g_dloadN W2 d8_18 (pc' := 19) rfl rfl ?_
  refine g_dneg W2 d8_19 (pc' := 20) rfl rfl ?_
  refine g_dload W2 d8_20 (pc' := 22) rfl rfl ?_
  refine g_callS W2 (argsL := [.double h, .double (FP.dneg d), .double (FP.dsub h d)]) (st := [.double (FP.dsub h d)]) (wd_25 hw) (wd_26 hw) (wd_3 hw) (wd_27 hw) (by decide) (c_err l Z a0 hw n0 h (FP.dneg d) (FP.dsub h d) 1224 (mh.mono (by decide)) ((dneg_mag md).mono (by decide)) (own_d1 mh md) (by decide) _ _ H2) pd_0 rfl rfl rfl d8_22 (pc' := 25) rfl (by decide) (Wn := 2) (Nat.le_of_eq rfl) (by decide) (kc' := 0) (ks' := 0) rfl rfl (by decide) (by decide) ?_
  intro T3 v3 W3 hp3
  obtain ⟨rfl, H3⟩ := hp3
  show Goes p e below _ (T3.setTop (mkF m 25 #[.val (.ref a), .val (.int i), .val (.double d), .second, .val (.double (FP.dsub h d)), .second] [.double (own_err h (FP.dneg d) (FP.dsub h d)), .double (FP.dsub h d)]))
  refine g_aloadN W3 d8_25 (pc' := 26) rfl rfl rfl ?_
  refine g_getf W3 (wd_13 hw) Via.refl H3 (i := 0) rfl (jx := 1) rfl d8_26 (pc' := 29) rfl ?_
  intro T4 W4 H4
  refine g_iloadN W4 d8_29 (pc' := 30) rfl rfl ?_
  refine g_daload W4 H4 (i := 2) rfl (jx := ix) hi (v := .double lw) hu d8_30 (pc' := 31) rfl ?_
  refine g_dadd W4 d8_31 (pc' := 32) rfl rfl (own_nn (own_d3 mh ml md) (by decide)) ?_
  refine g_dadd W4 d8_32 (pc' := 33) rfl rfl (own_nn (own_d4 mh ml md) (by decide)) ?_
  exact g_dreturn W4 d8_33 ⟨rfl, H4⟩ (by decide) (by decide)
set_option maxRecDepth 65536 in
set_option maxHeartbeats 40000000 in
theorem law_con (l : Launch) (Z : State) (a0 : Array Value) (hw : ∀ d ∈ tables_1, d.before a0 Z = true) (n0 : Nat) (p0 : Int32) (p1 : Int64) (p2 : Int32) (p3 p4 : Int64) (h0 : Heap) (H00 : Hp Z n0 h0 []) :
    Con l Z n0 x tables_1 code maxLocals ret room_1 #[.int p0, .long p1, .int p2, .long p3, .long p4] h0 (fun v _ => v = some (.int 1)) := by
  refine con_of (plainFor_of_name pn_PreciseValuesCopyPinLaw) ?_
  intro p e s m below meth c T0 W0 e0
  have H0 : Hp Z n0 T0.heap [] := e0 ▸ H00
  refine g_cast (ef_0 m p0 p1 p2 p3 p4) ?_
  refine g_iloadN W0 at_0 (pc' := 1) rfl rfl ?_
  refine g_ldcInt W0 (wd_0 hw) at_1 (pc' := 3) rfl ?_
  refine g_iand W0 at_3 (pc' := 4) rfl rfl ?_
  refine g_iconst W0 at_4 (pc' := 5) rfl (v := (3 : Int32)) (by decide) ?_
  refine g_irem W0 at_5 (pc' := 6) rfl (by decide) rfl ?_
  rcases own_i3 p0 with hn | hn | hn
  · rw [hn]
    refine g_istore W0 at_6 (pc' := 8) rfl (ls' := #[.val (.int p0), .val (.long p1), .second, .val (.int p2), .val (.long p3), .second, .val (.long p4), .second, .val (.int (0 : Int32)), .unset, .unset, .unset, .unset, .unset, .unset, .unset, .unset, .unset, .unset, .unset, .unset, .unset, .unset]) rfl ?_
    refine g_iload W0 at_8 (pc' := 10) rfl rfl ?_
    refine g_iconst W0 at_10 (pc' := 11) rfl (v := (1 : Int32)) (by decide) ?_
    refine g_iadd W0 at_11 (pc' := 12) rfl (v := (1 : Int32)) (by decide) ?_
    refine g_iconst W0 at_12 (pc' := 13) rfl (v := (3 : Int32)) (by decide) ?_
    refine g_irem W0 at_13 (pc' := 14) rfl (by decide) (v := (1 : Int32)) (by decide) ?_
    refine g_istore W0 at_14 (pc' := 16) rfl (ls' := #[.val (.int p0), .val (.long p1), .second, .val (.int p2), .val (.long p3), .second, .val (.long p4), .second, .val (.int (0 : Int32)), .val (.int (1 : Int32)), .unset, .unset, .unset, .unset, .unset, .unset, .unset, .unset, .unset, .unset, .unset, .unset, .unset]) rfl ?_
    refine g_new W0 (wd_1 hw) (wd_2 hw) (wd_3 hw) (la_PreciseValues hw) (by decide) H0 at_16 (pc' := 19) rfl (kc' := 1) (ks' := 2) rfl rfl (by decide) (by decide) ?_
    intro T1 a1 W1 H1
    refine g_dup W1 at_19 (pc' := 20) rfl rfl ?_
    refine g_iconst W1 at_20 (pc' := 21) rfl (v := (3 : Int32)) (by decide) ?_
    refine g_callI W1 (argsL := [.int (3 : Int32)]) (st := [.ref a1]) rfl (wd_4 hw) (wd_5 hw) (wd_3 hw) (wd_6 hw) (by decide) (a := a1) (c_init l Z a0 hw n0 a1 _ _ H1) pd_1 rfl rfl rfl at_21 (pc' := 24) rfl (by decide) (Wn := 1) (Nat.le_of_eq rfl) (by decide) (kc' := 3) (ks' := 8) rfl rfl (by decide) (by decide) ?_
    intro T2 v2 W2 hp2
    obtain ⟨h0_, l0_, rfl, H2⟩ := hp2
    show Goes p e below _ (T2.setTop (mkF m 24 #[.val (.int p0), .val (.long p1), .second, .val (.int p2), .val (.long p3), .second, .val (.long p4), .second, .val (.int (0 : Int32)), .val (.int (1 : Int32)), .unset, .unset, .unset, .unset, .unset, .unset, .unset, .unset, .unset, .unset, .unset, .unset, .unset] [.ref a1]))
    refine g_astore W2 at_24 (pc' := 26) rfl rfl (ls' := #[.val (.int p0), .val (.long p1), .second, .val (.int p2), .val (.long p3), .second, .val (.long p4), .second, .val (.int (0 : Int32)), .val (.int (1 : Int32)), .val (.ref a1), .unset, .unset, .unset, .unset, .unset, .unset, .unset, .unset, .unset, .unset, .unset, .unset]) rfl ?_
    refine g_new W2 (wd_1 hw) (wd_2 hw) (wd_3 hw) (la_PreciseValues hw) (by decide) H2 at_26 (pc' := 29) rfl (kc' := 4) (ks' := 10) rfl rfl (by decide) (by decide) ?_
    intro T3 a3 W3 H3
    refine g_dup W3 at_29 (pc' := 30) rfl rfl ?_
    refine g_iconst W3 at_30 (pc' := 31) rfl (v := (3 : Int32)) (by decide) ?_
    refine g_callI W3 (argsL := [.int (3 : Int32)]) (st := [.ref a3]) rfl (wd_4 hw) (wd_5 hw) (wd_3 hw) (wd_6 hw) (by decide) (a := a3) (c_init l Z a0 hw n0 a3 _ _ H3) pd_1 rfl rfl rfl at_31 (pc' := 34) rfl (by decide) (Wn := 1) (Nat.le_of_eq rfl) (by decide) (kc' := 6) (ks' := 16) rfl rfl (by decide) (by decide) ?_
    intro T4 v4 W4 hp4
    obtain ⟨h1_, l1_, rfl, H4⟩ := hp4
    show Goes p e below _ (T4.setTop (mkF m 34 #[.val (.int p0), .val (.long p1), .second, .val (.int p2), .val (.long p3), .second, .val (.long p4), .second, .val (.int (0 : Int32)), .val (.int (1 : Int32)), .val (.ref a1), .unset, .unset, .unset, .unset, .unset, .unset, .unset, .unset, .unset, .unset, .unset, .unset] [.ref a3]))
    refine g_astore W4 at_34 (pc' := 36) rfl rfl (ls' := #[.val (.int p0), .val (.long p1), .second, .val (.int p2), .val (.long p3), .second, .val (.long p4), .second, .val (.int (0 : Int32)), .val (.int (1 : Int32)), .val (.ref a1), .val (.ref a3), .unset, .unset, .unset, .unset, .unset, .unset, .unset, .unset, .unset, .unset, .unset]) rfl ?_
    refine g_aload W4 at_36 (pc' := 38) rfl rfl rfl ?_
    refine g_iload W4 at_38 (pc' := 40) rfl rfl ?_
    refine g_lloadN W4 at_40 (pc' := 41) rfl rfl ?_
    refine g_l2d W4 at_41 (pc' := 42) rfl rfl ?_
    have H5f : Hp Z n0 T4.heap [(l0_, ArC Z .double [.double 0, .double 0, .double 0]), (a3, ObC Z "com/example/narrow_bounds/narrowbounds/PreciseValues" [("com/example/narrow_bounds/narrowbounds/PreciseValues", "highs", "[D", .ref h1_), ("com/example/narrow_bounds/narrowbounds/PreciseValues", "lows", "[D", .ref l1_)]), (h1_, ArC Z .double [.double 0, .double 0, .double 0]), (l1_, ArC Z .double [.double 0, .double 0, .double 0]), (a1, ObC Z "com/example/narrow_bounds/narrowbounds/PreciseValues" [("com/example/narrow_bounds/narrowbounds/PreciseValues", "highs", "[D", .ref h0_), ("com/example/narrow_bounds/narrowbounds/PreciseValues", "lows", "[D", .ref l0_)]), (h0_, ArC Z .double [.double 0, .double 0, .double 0])] := H4.front (i := 5) rfl rfl
    have H6f : Hp Z n0 T4.heap [(h0_, ArC Z .double [.double 0, .double 0, .double 0]), (l0_, ArC Z .double [.double 0, .double 0, .double 0]), (a3, ObC Z "com/example/narrow_bounds/narrowbounds/PreciseValues" [("com/example/narrow_bounds/narrowbounds/PreciseValues", "highs", "[D", .ref h1_), ("com/example/narrow_bounds/narrowbounds/PreciseValues", "lows", "[D", .ref l1_)]), (h1_, ArC Z .double [.double 0, .double 0, .double 0]), (l1_, ArC Z .double [.double 0, .double 0, .double 0]), (a1, ObC Z "com/example/narrow_bounds/narrowbounds/PreciseValues" [("com/example/narrow_bounds/narrowbounds/PreciseValues", "highs", "[D", .ref h0_), ("com/example/narrow_bounds/narrowbounds/PreciseValues", "lows", "[D", .ref l0_)])] := H5f.front (i := 5) rfl rfl
    have H7f : Hp Z n0 T4.heap [(a1, ObC Z "com/example/narrow_bounds/narrowbounds/PreciseValues" [("com/example/narrow_bounds/narrowbounds/PreciseValues", "highs", "[D", .ref h0_), ("com/example/narrow_bounds/narrowbounds/PreciseValues", "lows", "[D", .ref l0_)]), (h0_, ArC Z .double [.double 0, .double 0, .double 0]), (l0_, ArC Z .double [.double 0, .double 0, .double 0]), (a3, ObC Z "com/example/narrow_bounds/narrowbounds/PreciseValues" [("com/example/narrow_bounds/narrowbounds/PreciseValues", "highs", "[D", .ref h1_), ("com/example/narrow_bounds/narrowbounds/PreciseValues", "lows", "[D", .ref l1_)]), (h1_, ArC Z .double [.double 0, .double 0, .double 0]), (l1_, ArC Z .double [.double 0, .double 0, .double 0])] := H6f.front (i := 5) rfl rfl
    refine g_callV W4 (argsL := [.int (0 : Int32), .double (FP.l2d p1)]) (st := []) (wd_15 hw) (wd_16 hw) (wd_18 hw) (wd_17 hw) (wd_3 hw) (wd_19 hw) (by decide) (a := a1) H7f (i := 0) rfl (c_set l Z a0 hw n0 a1 h0_ l0_ [.double 0, .double 0, .double 0] [.double 0, .double 0, .double 0] (0 : Int32) 0 (by decide) (show 0 < 3 by decide) (show 0 < 3 by decide) (FP.l2d p1) _ _ H7f) pd_2 rfl rfl rfl at_42 (pc' := 45) rfl (by decide) (Wn := 0) (Nat.le_of_eq rfl) (by decide) (kc' := 6) (ks' := 16) rfl rfl (by decide) (by decide) ?_
    intro T8 v8 W8 hp8
    obtain ⟨rfl, H8⟩ := hp8
    replace H8 : Hp Z n0 T8.heap [(a1, ObC Z "com/example/narrow_bounds/narrowbounds/PreciseValues" [("com/example/narrow_bounds/narrowbounds/PreciseValues", "highs", "[D", .ref h0_), ("com/example/narrow_bounds/narrowbounds/PreciseValues", "lows", "[D", .ref l0_)]), (h0_, ArC Z .double [.double (FP.l2d p1), .double 0, .double 0]), (l0_, ArC Z .double [.double 0, .double 0, .double 0]), (a3, ObC Z "com/example/narrow_bounds/narrowbounds/PreciseValues" [("com/example/narrow_bounds/narrowbounds/PreciseValues", "highs", "[D", .ref h1_), ("com/example/narrow_bounds/narrowbounds/PreciseValues", "lows", "[D", .ref l1_)]), (h1_, ArC Z .double [.double 0, .double 0, .double 0]), (l1_, ArC Z .double [.double 0, .double 0, .double 0])] := H8
    show Goes p e below _ (T8.setTop (mkF m 45 #[.val (.int p0), .val (.long p1), .second, .val (.int p2), .val (.long p3), .second, .val (.long p4), .second, .val (.int (0 : Int32)), .val (.int (1 : Int32)), .val (.ref a1), .val (.ref a3), .unset, .unset, .unset, .unset, .unset, .unset, .unset, .unset, .unset, .unset, .unset] []))
    refine g_aload W8 at_45 (pc' := 47) rfl rfl rfl ?_
    refine g_iload W8 at_47 (pc' := 49) rfl rfl ?_
    refine g_iloadN W8 at_49 (pc' := 50) rfl rfl ?_
    refine g_i2d W8 at_50 (pc' := 51) rfl rfl ?_
    have H9f : Hp Z n0 T8.heap [(l0_, ArC Z .double [.double 0, .double 0, .double 0]), (a1, ObC Z "com/example/narrow_bounds/narrowbounds/PreciseValues" [("com/example/narrow_bounds/narrowbounds/PreciseValues", "highs", "[D", .ref h0_), ("com/example/narrow_bounds/narrowbounds/PreciseValues", "lows", "[D", .ref l0_)]), (h0_, ArC Z .double [.double (FP.l2d p1), .double 0, .double 0]), (a3, ObC Z "com/example/narrow_bounds/narrowbounds/PreciseValues" [("com/example/narrow_bounds/narrowbounds/PreciseValues", "highs", "[D", .ref h1_), ("com/example/narrow_bounds/narrowbounds/PreciseValues", "lows", "[D", .ref l1_)]), (h1_, ArC Z .double [.double 0, .double 0, .double 0]), (l1_, ArC Z .double [.double 0, .double 0, .double 0])] := H8.front (i := 2) rfl rfl
    have H10f : Hp Z n0 T8.heap [(h0_, ArC Z .double [.double (FP.l2d p1), .double 0, .double 0]), (l0_, ArC Z .double [.double 0, .double 0, .double 0]), (a1, ObC Z "com/example/narrow_bounds/narrowbounds/PreciseValues" [("com/example/narrow_bounds/narrowbounds/PreciseValues", "highs", "[D", .ref h0_), ("com/example/narrow_bounds/narrowbounds/PreciseValues", "lows", "[D", .ref l0_)]), (a3, ObC Z "com/example/narrow_bounds/narrowbounds/PreciseValues" [("com/example/narrow_bounds/narrowbounds/PreciseValues", "highs", "[D", .ref h1_), ("com/example/narrow_bounds/narrowbounds/PreciseValues", "lows", "[D", .ref l1_)]), (h1_, ArC Z .double [.double 0, .double 0, .double 0]), (l1_, ArC Z .double [.double 0, .double 0, .double 0])] := H9f.front (i := 2) rfl rfl
    have H11f : Hp Z n0 T8.heap [(a1, ObC Z "com/example/narrow_bounds/narrowbounds/PreciseValues" [("com/example/narrow_bounds/narrowbounds/PreciseValues", "highs", "[D", .ref h0_), ("com/example/narrow_bounds/narrowbounds/PreciseValues", "lows", "[D", .ref l0_)]), (h0_, ArC Z .double [.double (FP.l2d p1), .double 0, .double 0]), (l0_, ArC Z .double [.double 0, .double 0, .double 0]), (a3, ObC Z "com/example/narrow_bounds/narrowbounds/PreciseValues" [("com/example/narrow_bounds/narrowbounds/PreciseValues", "highs", "[D", .ref h1_), ("com/example/narrow_bounds/narrowbounds/PreciseValues", "lows", "[D", .ref l1_)]), (h1_, ArC Z .double [.double 0, .double 0, .double 0]), (l1_, ArC Z .double [.double 0, .double 0, .double 0])] := H10f.front (i := 2) rfl rfl
    refine g_callV W8 (argsL := [.int (0 : Int32), .double (FP.i2d p2)]) (st := []) (wd_20 hw) (wd_21 hw) (wd_23 hw) (wd_22 hw) (wd_3 hw) (wd_24 hw) (by decide) (a := a1) H11f (i := 0) rfl (c_add l Z a0 hw n0 a1 h0_ l0_ [.double (FP.l2d p1), .double 0, .double 0] [.double 0, .double 0, .double 0] (0 : Int32) 0 (by decide) (FP.l2d p1) 0 rfl rfl (FP.i2d p2) ((l2d_mag p1).mono (by decide)) (own_mag0 (by decide)) ((i2d_mag p2).mono (by decide)) _ _ H11f) pd_2 rfl rfl rfl at_51 (pc' := 54) rfl (by decide) (Wn := 0) (Nat.le_of_eq rfl) (by decide) (kc' := 6) (ks' := 16) rfl rfl (by decide) (by decide) ?_
    intro T12 v12 W12 hp12
    obtain ⟨rfl, H12⟩ := hp12
    replace H12 : Hp Z n0 T12.heap [(a1, ObC Z "com/example/narrow_bounds/narrowbounds/PreciseValues" [("com/example/narrow_bounds/narrowbounds/PreciseValues", "highs", "[D", .ref h0_), ("com/example/narrow_bounds/narrowbounds/PreciseValues", "lows", "[D", .ref l0_)]), (h0_, ArC Z .double [.double (own_hi (FP.l2d p1) 0 (FP.i2d p2)), .double 0, .double 0]), (l0_, ArC Z .double [.double (own_lo (FP.l2d p1) 0 (FP.i2d p2)), .double 0, .double 0]), (a3, ObC Z "com/example/narrow_bounds/narrowbounds/PreciseValues" [("com/example/narrow_bounds/narrowbounds/PreciseValues", "highs", "[D", .ref h1_), ("com/example/narrow_bounds/narrowbounds/PreciseValues", "lows", "[D", .ref l1_)]), (h1_, ArC Z .double [.double 0, .double 0, .double 0]), (l1_, ArC Z .double [.double 0, .double 0, .double 0])] := H12
    show Goes p e below _ (T12.setTop (mkF m 54 #[.val (.int p0), .val (.long p1), .second, .val (.int p2), .val (.long p3), .second, .val (.long p4), .second, .val (.int (0 : Int32)), .val (.int (1 : Int32)), .val (.ref a1), .val (.ref a3), .unset, .unset, .unset, .unset, .unset, .unset, .unset, .unset, .unset, .unset, .unset] []))
    refine g_aload W12 at_54 (pc' := 56) rfl rfl rfl ?_
    refine g_iload W12 at_56 (pc' := 58) rfl rfl ?_
    refine g_lload W12 at_58 (pc' := 60) rfl rfl ?_
    refine g_l2d W12 at_60 (pc' := 61) rfl rfl ?_
    have H13f : Hp Z n0 T12.heap [(l1_, ArC Z .double [.double 0, .double 0, .double 0]), (a1, ObC Z "com/example/narrow_bounds/narrowbounds/PreciseValues" [("com/example/narrow_bounds/narrowbounds/PreciseValues", "highs", "[D", .ref h0_), ("com/example/narrow_bounds/narrowbounds/PreciseValues", "lows", "[D", .ref l0_)]), (h0_, ArC Z .double [.double (own_hi (FP.l2d p1) 0 (FP.i2d p2)), .double 0, .double 0]), (l0_, ArC Z .double [.double (own_lo (FP.l2d p1) 0 (FP.i2d p2)), .double 0, .double 0]), (a3, ObC Z "com/example/narrow_bounds/narrowbounds/PreciseValues" [("com/example/narrow_bounds/narrowbounds/PreciseValues", "highs", "[D", .ref h1_), ("com/example/narrow_bounds/narrowbounds/PreciseValues", "lows", "[D", .ref l1_)]), (h1_, ArC Z .double [.double 0, .double 0, .double 0])] := H12.front (i := 5) rfl rfl
    have H14f : Hp Z n0 T12.heap [(h1_, ArC Z .double [.double 0, .double 0, .double 0]), (l1_, ArC Z .double [.double 0, .double 0, .double 0]), (a1, ObC Z "com/example/narrow_bounds/narrowbounds/PreciseValues" [("com/example/narrow_bounds/narrowbounds/PreciseValues", "highs", "[D", .ref h0_), ("com/example/narrow_bounds/narrowbounds/PreciseValues", "lows", "[D", .ref l0_)]), (h0_, ArC Z .double [.double (own_hi (FP.l2d p1) 0 (FP.i2d p2)), .double 0, .double 0]), (l0_, ArC Z .double [.double (own_lo (FP.l2d p1) 0 (FP.i2d p2)), .double 0, .double 0]), (a3, ObC Z "com/example/narrow_bounds/narrowbounds/PreciseValues" [("com/example/narrow_bounds/narrowbounds/PreciseValues", "highs", "[D", .ref h1_), ("com/example/narrow_bounds/narrowbounds/PreciseValues", "lows", "[D", .ref l1_)])] := H13f.front (i := 5) rfl rfl
    have H15f : Hp Z n0 T12.heap [(a3, ObC Z "com/example/narrow_bounds/narrowbounds/PreciseValues" [("com/example/narrow_bounds/narrowbounds/PreciseValues", "highs", "[D", .ref h1_), ("com/example/narrow_bounds/narrowbounds/PreciseValues", "lows", "[D", .ref l1_)]), (h1_, ArC Z .double [.double 0, .double 0, .double 0]), (l1_, ArC Z .double [.double 0, .double 0, .double 0]), (a1, ObC Z "com/example/narrow_bounds/narrowbounds/PreciseValues" [("com/example/narrow_bounds/narrowbounds/PreciseValues", "highs", "[D", .ref h0_), ("com/example/narrow_bounds/narrowbounds/PreciseValues", "lows", "[D", .ref l0_)]), (h0_, ArC Z .double [.double (own_hi (FP.l2d p1) 0 (FP.i2d p2)), .double 0, .double 0]), (l0_, ArC Z .double [.double (own_lo (FP.l2d p1) 0 (FP.i2d p2)), .double 0, .double 0])] := H14f.front (i := 5) rfl rfl
    refine g_callV W12 (argsL := [.int (0 : Int32), .double (FP.l2d p3)]) (st := []) (wd_15 hw) (wd_16 hw) (wd_18 hw) (wd_17 hw) (wd_3 hw) (wd_19 hw) (by decide) (a := a3) H15f (i := 0) rfl (c_set l Z a0 hw n0 a3 h1_ l1_ [.double 0, .double 0, .double 0] [.double 0, .double 0, .double 0] (0 : Int32) 0 (by decide) (show 0 < 3 by decide) (show 0 < 3 by decide) (FP.l2d p3) _ _ H15f) pd_2 rfl rfl rfl at_61 (pc' := 64) rfl (by decide) (Wn := 0) (Nat.le_of_eq rfl) (by decide) (kc' := 6) (ks' := 16) rfl rfl (by decide) (by decide) ?_
    intro T16 v16 W16 hp16
    obtain ⟨rfl, H16⟩ := hp16
    replace H16 : Hp Z n0 T16.heap [(a3, ObC Z "com/example/narrow_bounds/narrowbounds/PreciseValues" [("com/example/narrow_bounds/narrowbounds/PreciseValues", "highs", "[D", .ref h1_), ("com/example/narrow_bounds/narrowbounds/PreciseValues", "lows", "[D", .ref l1_)]), (h1_, ArC Z .double [.double (FP.l2d p3), .double 0, .double 0]), (l1_, ArC Z .double [.double 0, .double 0, .double 0]), (a1, ObC Z "com/example/narrow_bounds/narrowbounds/PreciseValues" [("com/example/narrow_bounds/narrowbounds/PreciseValues", "highs", "[D", .ref h0_), ("com/example/narrow_bounds/narrowbounds/PreciseValues", "lows", "[D", .ref l0_)]), (h0_, ArC Z .double [.double (own_hi (FP.l2d p1) 0 (FP.i2d p2)), .double 0, .double 0]), (l0_, ArC Z .double [.double (own_lo (FP.l2d p1) 0 (FP.i2d p2)), .double 0, .double 0])] := H16
    show Goes p e below _ (T16.setTop (mkF m 64 #[.val (.int p0), .val (.long p1), .second, .val (.int p2), .val (.long p3), .second, .val (.long p4), .second, .val (.int (0 : Int32)), .val (.int (1 : Int32)), .val (.ref a1), .val (.ref a3), .unset, .unset, .unset, .unset, .unset, .unset, .unset, .unset, .unset, .unset, .unset] []))
    refine g_aload W16 at_64 (pc' := 66) rfl rfl rfl ?_
    refine g_iload W16 at_66 (pc' := 68) rfl rfl ?_
    refine g_lload W16 at_68 (pc' := 70) rfl rfl ?_
    refine g_l2d W16 at_70 (pc' := 71) rfl rfl ?_
    have H17f : Hp Z n0 T16.heap [(l1_, ArC Z .double [.double 0, .double 0, .double 0]), (a3, ObC Z "com/example/narrow_bounds/narrowbounds/PreciseValues" [("com/example/narrow_bounds/narrowbounds/PreciseValues", "highs", "[D", .ref h1_), ("com/example/narrow_bounds/narrowbounds/PreciseValues", "lows", "[D", .ref l1_)]), (h1_, ArC Z .double [.double (FP.l2d p3), .double 0, .double 0]), (a1, ObC Z "com/example/narrow_bounds/narrowbounds/PreciseValues" [("com/example/narrow_bounds/narrowbounds/PreciseValues", "highs", "[D", .ref h0_), ("com/example/narrow_bounds/narrowbounds/PreciseValues", "lows", "[D", .ref l0_)]), (h0_, ArC Z .double [.double (own_hi (FP.l2d p1) 0 (FP.i2d p2)), .double 0, .double 0]), (l0_, ArC Z .double [.double (own_lo (FP.l2d p1) 0 (FP.i2d p2)), .double 0, .double 0])] := H16.front (i := 2) rfl rfl
    have H18f : Hp Z n0 T16.heap [(h1_, ArC Z .double [.double (FP.l2d p3), .double 0, .double 0]), (l1_, ArC Z .double [.double 0, .double 0, .double 0]), (a3, ObC Z "com/example/narrow_bounds/narrowbounds/PreciseValues" [("com/example/narrow_bounds/narrowbounds/PreciseValues", "highs", "[D", .ref h1_), ("com/example/narrow_bounds/narrowbounds/PreciseValues", "lows", "[D", .ref l1_)]), (a1, ObC Z "com/example/narrow_bounds/narrowbounds/PreciseValues" [("com/example/narrow_bounds/narrowbounds/PreciseValues", "highs", "[D", .ref h0_), ("com/example/narrow_bounds/narrowbounds/PreciseValues", "lows", "[D", .ref l0_)]), (h0_, ArC Z .double [.double (own_hi (FP.l2d p1) 0 (FP.i2d p2)), .double 0, .double 0]), (l0_, ArC Z .double [.double (own_lo (FP.l2d p1) 0 (FP.i2d p2)), .double 0, .double 0])] := H17f.front (i := 2) rfl rfl
    have H19f : Hp Z n0 T16.heap [(a3, ObC Z "com/example/narrow_bounds/narrowbounds/PreciseValues" [("com/example/narrow_bounds/narrowbounds/PreciseValues", "highs", "[D", .ref h1_), ("com/example/narrow_bounds/narrowbounds/PreciseValues", "lows", "[D", .ref l1_)]), (h1_, ArC Z .double [.double (FP.l2d p3), .double 0, .double 0]), (l1_, ArC Z .double [.double 0, .double 0, .double 0]), (a1, ObC Z "com/example/narrow_bounds/narrowbounds/PreciseValues" [("com/example/narrow_bounds/narrowbounds/PreciseValues", "highs", "[D", .ref h0_), ("com/example/narrow_bounds/narrowbounds/PreciseValues", "lows", "[D", .ref l0_)]), (h0_, ArC Z .double [.double (own_hi (FP.l2d p1) 0 (FP.i2d p2)), .double 0, .double 0]), (l0_, ArC Z .double [.double (own_lo (FP.l2d p1) 0 (FP.i2d p2)), .double 0, .double 0])] := H18f.front (i := 2) rfl rfl
    refine g_callV W16 (argsL := [.int (1 : Int32), .double (FP.l2d p4)]) (st := []) (wd_15 hw) (wd_16 hw) (wd_18 hw) (wd_17 hw) (wd_3 hw) (wd_19 hw) (by decide) (a := a3) H19f (i := 0) rfl (c_set l Z a0 hw n0 a3 h1_ l1_ [.double (FP.l2d p3), .double 0, .double 0] [.double 0, .double 0, .double 0] (1 : Int32) 1 (by decide) (show 1 < 3 by decide) (show 1 < 3 by decide) (FP.l2d p4) _ _ H19f) pd_2 rfl rfl rfl at_71 (pc' := 74) rfl (by decide) (Wn := 0) (Nat.le_of_eq rfl) (by decide) (kc' := 6) (ks' := 16) rfl rfl (by decide) (by decide) ?_
    intro T20 v20 W20 hp20
    obtain ⟨rfl, H20⟩ := hp20
    replace H20 : Hp Z n0 T20.heap [(a3, ObC Z "com/example/narrow_bounds/narrowbounds/PreciseValues" [("com/example/narrow_bounds/narrowbounds/PreciseValues", "highs", "[D", .ref h1_), ("com/example/narrow_bounds/narrowbounds/PreciseValues", "lows", "[D", .ref l1_)]), (h1_, ArC Z .double [.double (FP.l2d p3), .double (FP.l2d p4), .double 0]), (l1_, ArC Z .double [.double 0, .double 0, .double 0]), (a1, ObC Z "com/example/narrow_bounds/narrowbounds/PreciseValues" [("com/example/narrow_bounds/narrowbounds/PreciseValues", "highs", "[D", .ref h0_), ("com/example/narrow_bounds/narrowbounds/PreciseValues", "lows", "[D", .ref l0_)]), (h0_, ArC Z .double [.double (own_hi (FP.l2d p1) 0 (FP.i2d p2)), .double 0, .double 0]), (l0_, ArC Z .double [.double (own_lo (FP.l2d p1) 0 (FP.i2d p2)), .double 0, .double 0])] := H20
    show Goes p e below _ (T20.setTop (mkF m 74 #[.val (.int p0), .val (.long p1), .second, .val (.int p2), .val (.long p3), .second, .val (.long p4), .second, .val (.int (0 : Int32)), .val (.int (1 : Int32)), .val (.ref a1), .val (.ref a3), .unset, .unset, .unset, .unset, .unset, .unset, .unset, .unset, .unset, .unset, .unset] []))
    refine g_aload W20 at_74 (pc' := 76) rfl rfl rfl ?_
    refine g_iload W20 at_76 (pc' := 78) rfl rfl ?_
    refine g_aload W20 at_78 (pc' := 80) rfl rfl rfl ?_
    have H21f : Hp Z n0 T20.heap [(l0_, ArC Z .double [.double (own_lo (FP.l2d p1) 0 (FP.i2d p2)), .double 0, .double 0]), (a3, ObC Z "com/example/narrow_bounds/narrowbounds/PreciseValues" [("com/example/narrow_bounds/narrowbounds/PreciseValues", "highs", "[D", .ref h1_), ("com/example/narrow_bounds/narrowbounds/PreciseValues", "lows", "[D", .ref l1_)]), (h1_, ArC Z .double [.double (FP.l2d p3), .double (FP.l2d p4), .double 0]), (l1_, ArC Z .double [.double 0, .double 0, .double 0]), (a1, ObC Z "com/example/narrow_bounds/narrowbounds/PreciseValues" [("com/example/narrow_bounds/narrowbounds/PreciseValues", "highs", "[D", .ref h0_), ("com/example/narrow_bounds/narrowbounds/PreciseValues", "lows", "[D", .ref l0_)]), (h0_, ArC Z .double [.double (own_hi (FP.l2d p1) 0 (FP.i2d p2)), .double 0, .double 0])] := H20.front (i := 5) rfl rfl
    have H22f : Hp Z n0 T20.heap [(h0_, ArC Z .double [.double (own_hi (FP.l2d p1) 0 (FP.i2d p2)), .double 0, .double 0]), (l0_, ArC Z .double [.double (own_lo (FP.l2d p1) 0 (FP.i2d p2)), .double 0, .double 0]), (a3, ObC Z "com/example/narrow_bounds/narrowbounds/PreciseValues" [("com/example/narrow_bounds/narrowbounds/PreciseValues", "highs", "[D", .ref h1_), ("com/example/narrow_bounds/narrowbounds/PreciseValues", "lows", "[D", .ref l1_)]), (h1_, ArC Z .double [.double (FP.l2d p3), .double (FP.l2d p4), .double 0]), (l1_, ArC Z .double [.double 0, .double 0, .double 0]), (a1, ObC Z "com/example/narrow_bounds/narrowbounds/PreciseValues" [("com/example/narrow_bounds/narrowbounds/PreciseValues", "highs", "[D", .ref h0_), ("com/example/narrow_bounds/narrowbounds/PreciseValues", "lows", "[D", .ref l0_)])] := H21f.front (i := 5) rfl rfl
    have H23f : Hp Z n0 T20.heap [(a1, ObC Z "com/example/narrow_bounds/narrowbounds/PreciseValues" [("com/example/narrow_bounds/narrowbounds/PreciseValues", "highs", "[D", .ref h0_), ("com/example/narrow_bounds/narrowbounds/PreciseValues", "lows", "[D", .ref l0_)]), (h0_, ArC Z .double [.double (own_hi (FP.l2d p1) 0 (FP.i2d p2)), .double 0, .double 0]), (l0_, ArC Z .double [.double (own_lo (FP.l2d p1) 0 (FP.i2d p2)), .double 0, .double 0]), (a3, ObC Z "com/example/narrow_bounds/narrowbounds/PreciseValues" [("com/example/narrow_bounds/narrowbounds/PreciseValues", "highs", "[D", .ref h1_), ("com/example/narrow_bounds/narrowbounds/PreciseValues", "lows", "[D", .ref l1_)]), (h1_, ArC Z .double [.double (FP.l2d p3), .double (FP.l2d p4), .double 0]), (l1_, ArC Z .double [.double 0, .double 0, .double 0])] := H22f.front (i := 5) rfl rfl
    have H24f : Hp Z n0 T20.heap [(l1_, ArC Z .double [.double 0, .double 0, .double 0]), (a1, ObC Z "com/example/narrow_bounds/narrowbounds/PreciseValues" [("com/example/narrow_bounds/narrowbounds/PreciseValues", "highs", "[D", .ref h0_), ("com/example/narrow_bounds/narrowbounds/PreciseValues", "lows", "[D", .ref l0_)]), (h0_, ArC Z .double [.double (own_hi (FP.l2d p1) 0 (FP.i2d p2)), .double 0, .double 0]), (l0_, ArC Z .double [.double (own_lo (FP.l2d p1) 0 (FP.i2d p2)), .double 0, .double 0]), (a3, ObC Z "com/example/narrow_bounds/narrowbounds/PreciseValues" [("com/example/narrow_bounds/narrowbounds/PreciseValues", "highs", "[D", .ref h1_), ("com/example/narrow_bounds/narrowbounds/PreciseValues", "lows", "[D", .ref l1_)]), (h1_, ArC Z .double [.double (FP.l2d p3), .double (FP.l2d p4), .double 0])] := H23f.front (i := 5) rfl rfl
    have H25f : Hp Z n0 T20.heap [(h1_, ArC Z .double [.double (FP.l2d p3), .double (FP.l2d p4), .double 0]), (l1_, ArC Z .double [.double 0, .double 0, .double 0]), (a1, ObC Z "com/example/narrow_bounds/narrowbounds/PreciseValues" [("com/example/narrow_bounds/narrowbounds/PreciseValues", "highs", "[D", .ref h0_), ("com/example/narrow_bounds/narrowbounds/PreciseValues", "lows", "[D", .ref l0_)]), (h0_, ArC Z .double [.double (own_hi (FP.l2d p1) 0 (FP.i2d p2)), .double 0, .double 0]), (l0_, ArC Z .double [.double (own_lo (FP.l2d p1) 0 (FP.i2d p2)), .double 0, .double 0]), (a3, ObC Z "com/example/narrow_bounds/narrowbounds/PreciseValues" [("com/example/narrow_bounds/narrowbounds/PreciseValues", "highs", "[D", .ref h1_), ("com/example/narrow_bounds/narrowbounds/PreciseValues", "lows", "[D", .ref l1_)])] := H24f.front (i := 5) rfl rfl
    have H26f : Hp Z n0 T20.heap [(a3, ObC Z "com/example/narrow_bounds/narrowbounds/PreciseValues" [("com/example/narrow_bounds/narrowbounds/PreciseValues", "highs", "[D", .ref h1_), ("com/example/narrow_bounds/narrowbounds/PreciseValues", "lows", "[D", .ref l1_)]), (h1_, ArC Z .double [.double (FP.l2d p3), .double (FP.l2d p4), .double 0]), (l1_, ArC Z .double [.double 0, .double 0, .double 0]), (a1, ObC Z "com/example/narrow_bounds/narrowbounds/PreciseValues" [("com/example/narrow_bounds/narrowbounds/PreciseValues", "highs", "[D", .ref h0_), ("com/example/narrow_bounds/narrowbounds/PreciseValues", "lows", "[D", .ref l0_)]), (h0_, ArC Z .double [.double (own_hi (FP.l2d p1) 0 (FP.i2d p2)), .double 0, .double 0]), (l0_, ArC Z .double [.double (own_lo (FP.l2d p1) 0 (FP.i2d p2)), .double 0, .double 0])] := H25f.front (i := 5) rfl rfl
    refine g_callV W20 (argsL := [.int (0 : Int32), .ref a1]) (st := []) (wd_28 hw) (wd_29 hw) (wd_31 hw) (wd_30 hw) (wd_3 hw) (wd_32 hw) (by decide) (a := a3) H26f (i := 0) rfl (c_copy l Z a0 hw n0 a3 h1_ l1_ a1 h0_ l0_ [.double (FP.l2d p3), .double (FP.l2d p4), .double 0] [.double 0, .double 0, .double 0] [.double (own_hi (FP.l2d p1) 0 (FP.i2d p2)), .double 0, .double 0] [.double (own_lo (FP.l2d p1) 0 (FP.i2d p2)), .double 0, .double 0] (0 : Int32) 0 (by decide) (show 0 < 3 by decide) (show 0 < 3 by decide) (own_hi (FP.l2d p1) 0 (FP.i2d p2)) (own_lo (FP.l2d p1) 0 (FP.i2d p2)) rfl rfl _ _ H26f) pd_3 rfl rfl rfl at_80 (pc' := 83) rfl (by decide) (Wn := 0) (Nat.le_of_eq rfl) (by decide) (kc' := 6) (ks' := 16) rfl rfl (by decide) (by decide) ?_
    intro T27 v27 W27 hp27
    obtain ⟨rfl, H27⟩ := hp27
    replace H27 : Hp Z n0 T27.heap [(a3, ObC Z "com/example/narrow_bounds/narrowbounds/PreciseValues" [("com/example/narrow_bounds/narrowbounds/PreciseValues", "highs", "[D", .ref h1_), ("com/example/narrow_bounds/narrowbounds/PreciseValues", "lows", "[D", .ref l1_)]), (h1_, ArC Z .double [.double (own_hi (FP.l2d p1) 0 (FP.i2d p2)), .double (FP.l2d p4), .double 0]), (l1_, ArC Z .double [.double (own_lo (FP.l2d p1) 0 (FP.i2d p2)), .double 0, .double 0]), (a1, ObC Z "com/example/narrow_bounds/narrowbounds/PreciseValues" [("com/example/narrow_bounds/narrowbounds/PreciseValues", "highs", "[D", .ref h0_), ("com/example/narrow_bounds/narrowbounds/PreciseValues", "lows", "[D", .ref l0_)]), (h0_, ArC Z .double [.double (own_hi (FP.l2d p1) 0 (FP.i2d p2)), .double 0, .double 0]), (l0_, ArC Z .double [.double (own_lo (FP.l2d p1) 0 (FP.i2d p2)), .double 0, .double 0])] := H27
    show Goes p e below _ (T27.setTop (mkF m 83 #[.val (.int p0), .val (.long p1), .second, .val (.int p2), .val (.long p3), .second, .val (.long p4), .second, .val (.int (0 : Int32)), .val (.int (1 : Int32)), .val (.ref a1), .val (.ref a3), .unset, .unset, .unset, .unset, .unset, .unset, .unset, .unset, .unset, .unset, .unset] []))
    refine g_aload W27 at_83 (pc' := 85) rfl rfl rfl ?_
    refine g_iload W27 at_85 (pc' := 87) rfl rfl ?_
    have mH : Mag64 1222 (own_hi (FP.l2d p1) 0 (FP.i2d p2)) := (own_hi_mag ((l2d_mag p1).mono (by decide)) (own_mag0 (by decide)) ((i2d_mag p2).mono (by decide))).mono (by decide)
    have mL : Mag64 1222 (own_lo (FP.l2d p1) 0 (FP.i2d p2)) := own_lo_mag ((l2d_mag p1).mono (by decide)) (own_mag0 (by decide)) ((i2d_mag p2).mono (by decide))
    have H28f : Hp Z n0 T27.heap [(l0_, ArC Z .double [.double (own_lo (FP.l2d p1) 0 (FP.i2d p2)), .double 0, .double 0]), (a3, ObC Z "com/example/narrow_bounds/narrowbounds/PreciseValues" [("com/example/narrow_bounds/narrowbounds/PreciseValues", "highs", "[D", .ref h1_), ("com/example/narrow_bounds/narrowbounds/PreciseValues", "lows", "[D", .ref l1_)]), (h1_, ArC Z .double [.double (own_hi (FP.l2d p1) 0 (FP.i2d p2)), .double (FP.l2d p4), .double 0]), (l1_, ArC Z .double [.double (own_lo (FP.l2d p1) 0 (FP.i2d p2)), .double 0, .double 0]), (a1, ObC Z "com/example/narrow_bounds/narrowbounds/PreciseValues" [("com/example/narrow_bounds/narrowbounds/PreciseValues", "highs", "[D", .ref h0_), ("com/example/narrow_bounds/narrowbounds/PreciseValues", "lows", "[D", .ref l0_)]), (h0_, ArC Z .double [.double (own_hi (FP.l2d p1) 0 (FP.i2d p2)), .double 0, .double 0])] := H27.front (i := 5) rfl rfl
    have H29f : Hp Z n0 T27.heap [(h0_, ArC Z .double [.double (own_hi (FP.l2d p1) 0 (FP.i2d p2)), .double 0, .double 0]), (l0_, ArC Z .double [.double (own_lo (FP.l2d p1) 0 (FP.i2d p2)), .double 0, .double 0]), (a3, ObC Z "com/example/narrow_bounds/narrowbounds/PreciseValues" [("com/example/narrow_bounds/narrowbounds/PreciseValues", "highs", "[D", .ref h1_), ("com/example/narrow_bounds/narrowbounds/PreciseValues", "lows", "[D", .ref l1_)]), (h1_, ArC Z .double [.double (own_hi (FP.l2d p1) 0 (FP.i2d p2)), .double (FP.l2d p4), .double 0]), (l1_, ArC Z .double [.double (own_lo (FP.l2d p1) 0 (FP.i2d p2)), .double 0, .double 0]), (a1, ObC Z "com/example/narrow_bounds/narrowbounds/PreciseValues" [("com/example/narrow_bounds/narrowbounds/PreciseValues", "highs", "[D", .ref h0_), ("com/example/narrow_bounds/narrowbounds/PreciseValues", "lows", "[D", .ref l0_)])] := H28f.front (i := 5) rfl rfl
    have H30f : Hp Z n0 T27.heap [(a1, ObC Z "com/example/narrow_bounds/narrowbounds/PreciseValues" [("com/example/narrow_bounds/narrowbounds/PreciseValues", "highs", "[D", .ref h0_), ("com/example/narrow_bounds/narrowbounds/PreciseValues", "lows", "[D", .ref l0_)]), (h0_, ArC Z .double [.double (own_hi (FP.l2d p1) 0 (FP.i2d p2)), .double 0, .double 0]), (l0_, ArC Z .double [.double (own_lo (FP.l2d p1) 0 (FP.i2d p2)), .double 0, .double 0]), (a3, ObC Z "com/example/narrow_bounds/narrowbounds/PreciseValues" [("com/example/narrow_bounds/narrowbounds/PreciseValues", "highs", "[D", .ref h1_), ("com/example/narrow_bounds/narrowbounds/PreciseValues", "lows", "[D", .ref l1_)]), (h1_, ArC Z .double [.double (own_hi (FP.l2d p1) 0 (FP.i2d p2)), .double (FP.l2d p4), .double 0]), (l1_, ArC Z .double [.double (own_lo (FP.l2d p1) 0 (FP.i2d p2)), .double 0, .double 0])] := H29f.front (i := 5) rfl rfl
    refine g_callV W27 (argsL := [.int (0 : Int32)]) (st := []) (wd_33 hw) (wd_34 hw) (wd_36 hw) (wd_35 hw) (wd_3 hw) (wd_37 hw) (by decide) (a := a1) H30f (i := 0) rfl (c_near l Z a0 hw n0 a1 h0_ l0_ [.double (own_hi (FP.l2d p1) 0 (FP.i2d p2)), .double 0, .double 0] [.double (own_lo (FP.l2d p1) 0 (FP.i2d p2)), .double 0, .double 0] (0 : Int32) 0 (by decide) (own_hi (FP.l2d p1) 0 (FP.i2d p2)) rfl _ _ H30f) pd_4 rfl rfl rfl at_87 (pc' := 90) rfl (by decide) (Wn := 0) (Nat.le_of_eq rfl) (by decide) (kc' := 6) (ks' := 16) rfl rfl (by decide) (by decide) ?_
    intro T31 v31 W31 hp31
    obtain ⟨rfl, H31⟩ := hp31
    show Goes p e below _ (T31.setTop (mkF m 90 #[.val (.int p0), .val (.long p1), .second, .val (.int p2), .val (.long p3), .second, .val (.long p4), .second, .val (.int (0 : Int32)), .val (.int (1 : Int32)), .val (.ref a1), .val (.ref a3), .unset, .unset, .unset, .unset, .unset, .unset, .unset, .unset, .unset, .unset, .unset] [.double (own_hi (FP.l2d p1) 0 (FP.i2d p2))]))
    refine g_dstore W31 at_90 (pc' := 92) rfl (ls' := #[.val (.int p0), .val (.long p1), .second, .val (.int p2), .val (.long p3), .second, .val (.long p4), .second, .val (.int (0 : Int32)), .val (.int (1 : Int32)), .val (.ref a1), .val (.ref a3), .val (.double (own_hi (FP.l2d p1) 0 (FP.i2d p2))), .second, .unset, .unset, .unset, .unset, .unset, .unset, .unset, .unset, .unset]) rfl ?_
    refine g_aload W31 at_92 (pc' := 94) rfl rfl rfl ?_
    refine g_iload W31 at_94 (pc' := 96) rfl rfl ?_
    refine g_dload W31 at_96 (pc' := 98) rfl rfl ?_
    have H32f : Hp Z n0 T31.heap [(l0_, ArC Z .double [.double (own_lo (FP.l2d p1) 0 (FP.i2d p2)), .double 0, .double 0]), (a1, ObC Z "com/example/narrow_bounds/narrowbounds/PreciseValues" [("com/example/narrow_bounds/narrowbounds/PreciseValues", "highs", "[D", .ref h0_), ("com/example/narrow_bounds/narrowbounds/PreciseValues", "lows", "[D", .ref l0_)]), (h0_, ArC Z .double [.double (own_hi (FP.l2d p1) 0 (FP.i2d p2)), .double 0, .double 0]), (a3, ObC Z "com/example/narrow_bounds/narrowbounds/PreciseValues" [("com/example/narrow_bounds/narrowbounds/PreciseValues", "highs", "[D", .ref h1_), ("com/example/narrow_bounds/narrowbounds/PreciseValues", "lows", "[D", .ref l1_)]), (h1_, ArC Z .double [.double (own_hi (FP.l2d p1) 0 (FP.i2d p2)), .double (FP.l2d p4), .double 0]), (l1_, ArC Z .double [.double (own_lo (FP.l2d p1) 0 (FP.i2d p2)), .double 0, .double 0])] := H31.front (i := 2) rfl rfl
    have H33f : Hp Z n0 T31.heap [(h0_, ArC Z .double [.double (own_hi (FP.l2d p1) 0 (FP.i2d p2)), .double 0, .double 0]), (l0_, ArC Z .double [.double (own_lo (FP.l2d p1) 0 (FP.i2d p2)), .double 0, .double 0]), (a1, ObC Z "com/example/narrow_bounds/narrowbounds/PreciseValues" [("com/example/narrow_bounds/narrowbounds/PreciseValues", "highs", "[D", .ref h0_), ("com/example/narrow_bounds/narrowbounds/PreciseValues", "lows", "[D", .ref l0_)]), (a3, ObC Z "com/example/narrow_bounds/narrowbounds/PreciseValues" [("com/example/narrow_bounds/narrowbounds/PreciseValues", "highs", "[D", .ref h1_), ("com/example/narrow_bounds/narrowbounds/PreciseValues", "lows", "[D", .ref l1_)]), (h1_, ArC Z .double [.double (own_hi (FP.l2d p1) 0 (FP.i2d p2)), .double (FP.l2d p4), .double 0]), (l1_, ArC Z .double [.double (own_lo (FP.l2d p1) 0 (FP.i2d p2)), .double 0, .double 0])] := H32f.front (i := 2) rfl rfl
    have H34f : Hp Z n0 T31.heap [(a1, ObC Z "com/example/narrow_bounds/narrowbounds/PreciseValues" [("com/example/narrow_bounds/narrowbounds/PreciseValues", "highs", "[D", .ref h0_), ("com/example/narrow_bounds/narrowbounds/PreciseValues", "lows", "[D", .ref l0_)]), (h0_, ArC Z .double [.double (own_hi (FP.l2d p1) 0 (FP.i2d p2)), .double 0, .double 0]), (l0_, ArC Z .double [.double (own_lo (FP.l2d p1) 0 (FP.i2d p2)), .double 0, .double 0]), (a3, ObC Z "com/example/narrow_bounds/narrowbounds/PreciseValues" [("com/example/narrow_bounds/narrowbounds/PreciseValues", "highs", "[D", .ref h1_), ("com/example/narrow_bounds/narrowbounds/PreciseValues", "lows", "[D", .ref l1_)]), (h1_, ArC Z .double [.double (own_hi (FP.l2d p1) 0 (FP.i2d p2)), .double (FP.l2d p4), .double 0]), (l1_, ArC Z .double [.double (own_lo (FP.l2d p1) 0 (FP.i2d p2)), .double 0, .double 0])] := H33f.front (i := 2) rfl rfl
    refine g_callV W31 (argsL := [.int (0 : Int32), .double (own_hi (FP.l2d p1) 0 (FP.i2d p2))]) (st := []) (wd_38 hw) (wd_39 hw) (wd_41 hw) (wd_40 hw) (wd_3 hw) (wd_42 hw) (by decide) (a := a1) H34f (i := 0) rfl (c_diff l Z a0 hw n0 a1 h0_ l0_ [.double (own_hi (FP.l2d p1) 0 (FP.i2d p2)), .double 0, .double 0] [.double (own_lo (FP.l2d p1) 0 (FP.i2d p2)), .double 0, .double 0] (0 : Int32) 0 (by decide) (own_hi (FP.l2d p1) 0 (FP.i2d p2)) (own_lo (FP.l2d p1) 0 (FP.i2d p2)) rfl rfl (own_hi (FP.l2d p1) 0 (FP.i2d p2)) mH mL mH _ _ H34f) pd_5 rfl rfl rfl at_98 (pc' := 101) rfl (by decide) (Wn := 0) (Nat.le_of_eq rfl) (by decide) (kc' := 6) (ks' := 16) rfl rfl (by decide) (by decide) ?_
    intro T35 v35 W35 hp35
    obtain ⟨rfl, H35⟩ := hp35
    show Goes p e below _ (T35.setTop (mkF m 101 #[.val (.int p0), .val (.long p1), .second, .val (.int p2), .val (.long p3), .second, .val (.long p4), .second, .val (.int (0 : Int32)), .val (.int (1 : Int32)), .val (.ref a1), .val (.ref a3), .val (.double (own_hi (FP.l2d p1) 0 (FP.i2d p2))), .second, .unset, .unset, .unset, .unset, .unset, .unset, .unset, .unset, .unset] [.double (own_diff (own_hi (FP.l2d p1) 0 (FP.i2d p2)) (own_lo (FP.l2d p1) 0 (FP.i2d p2)) (own_hi (FP.l2d p1) 0 (FP.i2d p2)))]))
    refine g_dstore W35 at_101 (pc' := 103) rfl (ls' := #[.val (.int p0), .val (.long p1), .second, .val (.int p2), .val (.long p3), .second, .val (.long p4), .second, .val (.int (0 : Int32)), .val (.int (1 : Int32)), .val (.ref a1), .val (.ref a3), .val (.double (own_hi (FP.l2d p1) 0 (FP.i2d p2))), .second, .val (.double (own_diff (own_hi (FP.l2d p1) 0 (FP.i2d p2)) (own_lo (FP.l2d p1) 0 (FP.i2d p2)) (own_hi (FP.l2d p1) 0 (FP.i2d p2)))), .second, .unset, .unset, .unset, .unset, .unset, .unset, .unset]) rfl ?_
    refine g_aload W35 at_103 (pc' := 105) rfl rfl rfl ?_
    refine g_iload W35 at_105 (pc' := 107) rfl rfl ?_
    have H36f : Hp Z n0 T35.heap [(l1_, ArC Z .double [.double (own_lo (FP.l2d p1) 0 (FP.i2d p2)), .double 0, .double 0]), (a1, ObC Z "com/example/narrow_bounds/narrowbounds/PreciseValues" [("com/example/narrow_bounds/narrowbounds/PreciseValues", "highs", "[D", .ref h0_), ("com/example/narrow_bounds/narrowbounds/PreciseValues", "lows", "[D", .ref l0_)]), (h0_, ArC Z .double [.double (own_hi (FP.l2d p1) 0 (FP.i2d p2)), .double 0, .double 0]), (l0_, ArC Z .double [.double (own_lo (FP.l2d p1) 0 (FP.i2d p2)), .double 0, .double 0]), (a3, ObC Z "com/example/narrow_bounds/narrowbounds/PreciseValues" [("com/example/narrow_bounds/narrowbounds/PreciseValues", "highs", "[D", .ref h1_), ("com/example/narrow_bounds/narrowbounds/PreciseValues", "lows", "[D", .ref l1_)]), (h1_, ArC Z .double [.double (own_hi (FP.l2d p1) 0 (FP.i2d p2)), .double (FP.l2d p4), .double 0])] := H35.front (i := 5) rfl rfl
    have H37f : Hp Z n0 T35.heap [(h1_, ArC Z .double [.double (own_hi (FP.l2d p1) 0 (FP.i2d p2)), .double (FP.l2d p4), .double 0]), (l1_, ArC Z .double [.double (own_lo (FP.l2d p1) 0 (FP.i2d p2)), .double 0, .double 0]), (a1, ObC Z "com/example/narrow_bounds/narrowbounds/PreciseValues" [("com/example/narrow_bounds/narrowbounds/PreciseValues", "highs", "[D", .ref h0_), ("com/example/narrow_bounds/narrowbounds/PreciseValues", "lows", "[D", .ref l0_)]), (h0_, ArC Z .double [.double (own_hi (FP.l2d p1) 0 (FP.i2d p2)), .double 0, .double 0]), (l0_, ArC Z .double [.double (own_lo (FP.l2d p1) 0 (FP.i2d p2)), .double 0, .double 0]), (a3, ObC Z "com/example/narrow_bounds/narrowbounds/PreciseValues" [("com/example/narrow_bounds/narrowbounds/PreciseValues", "highs", "[D", .ref h1_), ("com/example/narrow_bounds/narrowbounds/PreciseValues", "lows", "[D", .ref l1_)])] := H36f.front (i := 5) rfl rfl
    have H38f : Hp Z n0 T35.heap [(a3, ObC Z "com/example/narrow_bounds/narrowbounds/PreciseValues" [("com/example/narrow_bounds/narrowbounds/PreciseValues", "highs", "[D", .ref h1_), ("com/example/narrow_bounds/narrowbounds/PreciseValues", "lows", "[D", .ref l1_)]), (h1_, ArC Z .double [.double (own_hi (FP.l2d p1) 0 (FP.i2d p2)), .double (FP.l2d p4), .double 0]), (l1_, ArC Z .double [.double (own_lo (FP.l2d p1) 0 (FP.i2d p2)), .double 0, .double 0]), (a1, ObC Z "com/example/narrow_bounds/narrowbounds/PreciseValues" [("com/example/narrow_bounds/narrowbounds/PreciseValues", "highs", "[D", .ref h0_), ("com/example/narrow_bounds/narrowbounds/PreciseValues", "lows", "[D", .ref l0_)]), (h0_, ArC Z .double [.double (own_hi (FP.l2d p1) 0 (FP.i2d p2)), .double 0, .double 0]), (l0_, ArC Z .double [.double (own_lo (FP.l2d p1) 0 (FP.i2d p2)), .double 0, .double 0])] := H37f.front (i := 5) rfl rfl
    refine g_callV W35 (argsL := [.int (0 : Int32)]) (st := []) (wd_33 hw) (wd_34 hw) (wd_36 hw) (wd_35 hw) (wd_3 hw) (wd_37 hw) (by decide) (a := a3) H38f (i := 0) rfl (c_near l Z a0 hw n0 a3 h1_ l1_ [.double (own_hi (FP.l2d p1) 0 (FP.i2d p2)), .double (FP.l2d p4), .double 0] [.double (own_lo (FP.l2d p1) 0 (FP.i2d p2)), .double 0, .double 0] (0 : Int32) 0 (by decide) (own_hi (FP.l2d p1) 0 (FP.i2d p2)) rfl _ _ H38f) pd_4 rfl rfl rfl at_107 (pc' := 110) rfl (by decide) (Wn := 0) (Nat.le_of_eq rfl) (by decide) (kc' := 6) (ks' := 16) rfl rfl (by decide) (by decide) ?_
    intro T39 v39 W39 hp39
    obtain ⟨rfl, H39⟩ := hp39
    show Goes p e below _ (T39.setTop (mkF m 110 #[.val (.int p0), .val (.long p1), .second, .val (.int p2), .val (.long p3), .second, .val (.long p4), .second, .val (.int (0 : Int32)), .val (.int (1 : Int32)), .val (.ref a1), .val (.ref a3), .val (.double (own_hi (FP.l2d p1) 0 (FP.i2d p2))), .second, .val (.double (own_diff (own_hi (FP.l2d p1) 0 (FP.i2d p2)) (own_lo (FP.l2d p1) 0 (FP.i2d p2)) (own_hi (FP.l2d p1) 0 (FP.i2d p2)))), .second, .unset, .unset, .unset, .unset, .unset, .unset, .unset] [.double (own_hi (FP.l2d p1) 0 (FP.i2d p2))]))
    refine g_dstore W39 at_110 (pc' := 112) rfl (ls' := #[.val (.int p0), .val (.long p1), .second, .val (.int p2), .val (.long p3), .second, .val (.long p4), .second, .val (.int (0 : Int32)), .val (.int (1 : Int32)), .val (.ref a1), .val (.ref a3), .val (.double (own_hi (FP.l2d p1) 0 (FP.i2d p2))), .second, .val (.double (own_diff (own_hi (FP.l2d p1) 0 (FP.i2d p2)) (own_lo (FP.l2d p1) 0 (FP.i2d p2)) (own_hi (FP.l2d p1) 0 (FP.i2d p2)))), .second, .val (.double (own_hi (FP.l2d p1) 0 (FP.i2d p2))), .second, .unset, .unset, .unset, .unset, .unset]) rfl ?_
    refine g_aload W39 at_112 (pc' := 114) rfl rfl rfl ?_
    refine g_iload W39 at_114 (pc' := 116) rfl rfl ?_
    refine g_dload W39 at_116 (pc' := 118) rfl rfl ?_
    have H40f : Hp Z n0 T39.heap [(l1_, ArC Z .double [.double (own_lo (FP.l2d p1) 0 (FP.i2d p2)), .double 0, .double 0]), (a3, ObC Z "com/example/narrow_bounds/narrowbounds/PreciseValues" [("com/example/narrow_bounds/narrowbounds/PreciseValues", "highs", "[D", .ref h1_), ("com/example/narrow_bounds/narrowbounds/PreciseValues", "lows", "[D", .ref l1_)]), (h1_, ArC Z .double [.double (own_hi (FP.l2d p1) 0 (FP.i2d p2)), .double (FP.l2d p4), .double 0]), (a1, ObC Z "com/example/narrow_bounds/narrowbounds/PreciseValues" [("com/example/narrow_bounds/narrowbounds/PreciseValues", "highs", "[D", .ref h0_), ("com/example/narrow_bounds/narrowbounds/PreciseValues", "lows", "[D", .ref l0_)]), (h0_, ArC Z .double [.double (own_hi (FP.l2d p1) 0 (FP.i2d p2)), .double 0, .double 0]), (l0_, ArC Z .double [.double (own_lo (FP.l2d p1) 0 (FP.i2d p2)), .double 0, .double 0])] := H39.front (i := 2) rfl rfl
    have H41f : Hp Z n0 T39.heap [(h1_, ArC Z .double [.double (own_hi (FP.l2d p1) 0 (FP.i2d p2)), .double (FP.l2d p4), .double 0]), (l1_, ArC Z .double [.double (own_lo (FP.l2d p1) 0 (FP.i2d p2)), .double 0, .double 0]), (a3, ObC Z "com/example/narrow_bounds/narrowbounds/PreciseValues" [("com/example/narrow_bounds/narrowbounds/PreciseValues", "highs", "[D", .ref h1_), ("com/example/narrow_bounds/narrowbounds/PreciseValues", "lows", "[D", .ref l1_)]), (a1, ObC Z "com/example/narrow_bounds/narrowbounds/PreciseValues" [("com/example/narrow_bounds/narrowbounds/PreciseValues", "highs", "[D", .ref h0_), ("com/example/narrow_bounds/narrowbounds/PreciseValues", "lows", "[D", .ref l0_)]), (h0_, ArC Z .double [.double (own_hi (FP.l2d p1) 0 (FP.i2d p2)), .double 0, .double 0]), (l0_, ArC Z .double [.double (own_lo (FP.l2d p1) 0 (FP.i2d p2)), .double 0, .double 0])] := H40f.front (i := 2) rfl rfl
    have H42f : Hp Z n0 T39.heap [(a3, ObC Z "com/example/narrow_bounds/narrowbounds/PreciseValues" [("com/example/narrow_bounds/narrowbounds/PreciseValues", "highs", "[D", .ref h1_), ("com/example/narrow_bounds/narrowbounds/PreciseValues", "lows", "[D", .ref l1_)]), (h1_, ArC Z .double [.double (own_hi (FP.l2d p1) 0 (FP.i2d p2)), .double (FP.l2d p4), .double 0]), (l1_, ArC Z .double [.double (own_lo (FP.l2d p1) 0 (FP.i2d p2)), .double 0, .double 0]), (a1, ObC Z "com/example/narrow_bounds/narrowbounds/PreciseValues" [("com/example/narrow_bounds/narrowbounds/PreciseValues", "highs", "[D", .ref h0_), ("com/example/narrow_bounds/narrowbounds/PreciseValues", "lows", "[D", .ref l0_)]), (h0_, ArC Z .double [.double (own_hi (FP.l2d p1) 0 (FP.i2d p2)), .double 0, .double 0]), (l0_, ArC Z .double [.double (own_lo (FP.l2d p1) 0 (FP.i2d p2)), .double 0, .double 0])] := H41f.front (i := 2) rfl rfl
    refine g_callV W39 (argsL := [.int (0 : Int32), .double (own_hi (FP.l2d p1) 0 (FP.i2d p2))]) (st := []) (wd_38 hw) (wd_39 hw) (wd_41 hw) (wd_40 hw) (wd_3 hw) (wd_42 hw) (by decide) (a := a3) H42f (i := 0) rfl (c_diff l Z a0 hw n0 a3 h1_ l1_ [.double (own_hi (FP.l2d p1) 0 (FP.i2d p2)), .double (FP.l2d p4), .double 0] [.double (own_lo (FP.l2d p1) 0 (FP.i2d p2)), .double 0, .double 0] (0 : Int32) 0 (by decide) (own_hi (FP.l2d p1) 0 (FP.i2d p2)) (own_lo (FP.l2d p1) 0 (FP.i2d p2)) rfl rfl (own_hi (FP.l2d p1) 0 (FP.i2d p2)) mH mL mH _ _ H42f) pd_5 rfl rfl rfl at_118 (pc' := 121) rfl (by decide) (Wn := 0) (Nat.le_of_eq rfl) (by decide) (kc' := 6) (ks' := 16) rfl rfl (by decide) (by decide) ?_
    intro T43 v43 W43 hp43
    obtain ⟨rfl, H43⟩ := hp43
    show Goes p e below _ (T43.setTop (mkF m 121 #[.val (.int p0), .val (.long p1), .second, .val (.int p2), .val (.long p3), .second, .val (.long p4), .second, .val (.int (0 : Int32)), .val (.int (1 : Int32)), .val (.ref a1), .val (.ref a3), .val (.double (own_hi (FP.l2d p1) 0 (FP.i2d p2))), .second, .val (.double (own_diff (own_hi (FP.l2d p1) 0 (FP.i2d p2)) (own_lo (FP.l2d p1) 0 (FP.i2d p2)) (own_hi (FP.l2d p1) 0 (FP.i2d p2)))), .second, .val (.double (own_hi (FP.l2d p1) 0 (FP.i2d p2))), .second, .unset, .unset, .unset, .unset, .unset] [.double (own_diff (own_hi (FP.l2d p1) 0 (FP.i2d p2)) (own_lo (FP.l2d p1) 0 (FP.i2d p2)) (own_hi (FP.l2d p1) 0 (FP.i2d p2)))]))
    refine g_dstore W43 at_121 (pc' := 123) rfl (ls' := #[.val (.int p0), .val (.long p1), .second, .val (.int p2), .val (.long p3), .second, .val (.long p4), .second, .val (.int (0 : Int32)), .val (.int (1 : Int32)), .val (.ref a1), .val (.ref a3), .val (.double (own_hi (FP.l2d p1) 0 (FP.i2d p2))), .second, .val (.double (own_diff (own_hi (FP.l2d p1) 0 (FP.i2d p2)) (own_lo (FP.l2d p1) 0 (FP.i2d p2)) (own_hi (FP.l2d p1) 0 (FP.i2d p2)))), .second, .val (.double (own_hi (FP.l2d p1) 0 (FP.i2d p2))), .second, .val (.double (own_diff (own_hi (FP.l2d p1) 0 (FP.i2d p2)) (own_lo (FP.l2d p1) 0 (FP.i2d p2)) (own_hi (FP.l2d p1) 0 (FP.i2d p2)))), .second, .unset, .unset, .unset]) rfl ?_
    refine g_dload W43 at_123 (pc' := 125) rfl rfl ?_
    refine g_dload W43 at_125 (pc' := 127) rfl rfl ?_
    refine g_dcmp W43 at_127 (pc' := 128) rfl rfl ?_
    rw [show (cmpValue (FP.dcmp (own_hi (FP.l2d p1) 0 (FP.i2d p2)) (own_hi (FP.l2d p1) 0 (FP.i2d p2))) .l) = (0 : Int32) from dcmpV_self (own_nn mH (by decide)) .l]
    refine g_if W43 at_128 (pcy := 135) (by decide) (pc' := 131) rfl (fun (h : ¬ (0 : Int32) = (0 : Int32)) => absurd h (by decide)) (fun _ => ?_)
    refine g_iconst W43 at_131 (pc' := 132) rfl (v := (1 : Int32)) (by decide) ?_
    refine g_goto W43 at_132 (pc' := 136) (by decide) ?_
    refine g_istore W43 at_136 (pc' := 138) rfl (ls' := #[.val (.int p0), .val (.long p1), .second, .val (.int p2), .val (.long p3), .second, .val (.long p4), .second, .val (.int (0 : Int32)), .val (.int (1 : Int32)), .val (.ref a1), .val (.ref a3), .val (.double (own_hi (FP.l2d p1) 0 (FP.i2d p2))), .second, .val (.double (own_diff (own_hi (FP.l2d p1) 0 (FP.i2d p2)) (own_lo (FP.l2d p1) 0 (FP.i2d p2)) (own_hi (FP.l2d p1) 0 (FP.i2d p2)))), .second, .val (.double (own_hi (FP.l2d p1) 0 (FP.i2d p2))), .second, .val (.double (own_diff (own_hi (FP.l2d p1) 0 (FP.i2d p2)) (own_lo (FP.l2d p1) 0 (FP.i2d p2)) (own_hi (FP.l2d p1) 0 (FP.i2d p2)))), .second, .val (.int (1 : Int32)), .unset, .unset]) rfl ?_
    refine g_dload W43 at_138 (pc' := 140) rfl rfl ?_
    refine g_dload W43 at_140 (pc' := 142) rfl rfl ?_
    refine g_dcmp W43 at_142 (pc' := 143) rfl rfl ?_
    rw [show (cmpValue (FP.dcmp (own_diff (own_hi (FP.l2d p1) 0 (FP.i2d p2)) (own_lo (FP.l2d p1) 0 (FP.i2d p2)) (own_hi (FP.l2d p1) 0 (FP.i2d p2))) (own_diff (own_hi (FP.l2d p1) 0 (FP.i2d p2)) (own_lo (FP.l2d p1) 0 (FP.i2d p2)) (own_hi (FP.l2d p1) 0 (FP.i2d p2)))) .l) = (0 : Int32) from dcmpV_self (own_nn (own_d4 mH mL mH) (by decide)) .l]
    refine g_if W43 at_143 (pcy := 150) (by decide) (pc' := 146) rfl (fun (h : ¬ (0 : Int32) = (0 : Int32)) => absurd h (by decide)) (fun _ => ?_)
    refine g_iconst W43 at_146 (pc' := 147) rfl (v := (1 : Int32)) (by decide) ?_
    refine g_goto W43 at_147 (pc' := 151) (by decide) ?_
    refine g_istore W43 at_151 (pc' := 153) rfl (ls' := #[.val (.int p0), .val (.long p1), .second, .val (.int p2), .val (.long p3), .second, .val (.long p4), .second, .val (.int (0 : Int32)), .val (.int (1 : Int32)), .val (.ref a1), .val (.ref a3), .val (.double (own_hi (FP.l2d p1) 0 (FP.i2d p2))), .second, .val (.double (own_diff (own_hi (FP.l2d p1) 0 (FP.i2d p2)) (own_lo (FP.l2d p1) 0 (FP.i2d p2)) (own_hi (FP.l2d p1) 0 (FP.i2d p2)))), .second, .val (.double (own_hi (FP.l2d p1) 0 (FP.i2d p2))), .second, .val (.double (own_diff (own_hi (FP.l2d p1) 0 (FP.i2d p2)) (own_lo (FP.l2d p1) 0 (FP.i2d p2)) (own_hi (FP.l2d p1) 0 (FP.i2d p2)))), .second, .val (.int (1 : Int32)), .val (.int (1 : Int32)), .unset]) rfl ?_
    refine g_aload W43 at_153 (pc' := 155) rfl rfl rfl ?_
    refine g_iload W43 at_155 (pc' := 157) rfl rfl ?_
    have H44f : Hp Z n0 T43.heap [(l1_, ArC Z .double [.double (own_lo (FP.l2d p1) 0 (FP.i2d p2)), .double 0, .double 0]), (a3, ObC Z "com/example/narrow_bounds/narrowbounds/PreciseValues" [("com/example/narrow_bounds/narrowbounds/PreciseValues", "highs", "[D", .ref h1_), ("com/example/narrow_bounds/narrowbounds/PreciseValues", "lows", "[D", .ref l1_)]), (h1_, ArC Z .double [.double (own_hi (FP.l2d p1) 0 (FP.i2d p2)), .double (FP.l2d p4), .double 0]), (a1, ObC Z "com/example/narrow_bounds/narrowbounds/PreciseValues" [("com/example/narrow_bounds/narrowbounds/PreciseValues", "highs", "[D", .ref h0_), ("com/example/narrow_bounds/narrowbounds/PreciseValues", "lows", "[D", .ref l0_)]), (h0_, ArC Z .double [.double (own_hi (FP.l2d p1) 0 (FP.i2d p2)), .double 0, .double 0]), (l0_, ArC Z .double [.double (own_lo (FP.l2d p1) 0 (FP.i2d p2)), .double 0, .double 0])] := H43.front (i := 2) rfl rfl
    have H45f : Hp Z n0 T43.heap [(h1_, ArC Z .double [.double (own_hi (FP.l2d p1) 0 (FP.i2d p2)), .double (FP.l2d p4), .double 0]), (l1_, ArC Z .double [.double (own_lo (FP.l2d p1) 0 (FP.i2d p2)), .double 0, .double 0]), (a3, ObC Z "com/example/narrow_bounds/narrowbounds/PreciseValues" [("com/example/narrow_bounds/narrowbounds/PreciseValues", "highs", "[D", .ref h1_), ("com/example/narrow_bounds/narrowbounds/PreciseValues", "lows", "[D", .ref l1_)]), (a1, ObC Z "com/example/narrow_bounds/narrowbounds/PreciseValues" [("com/example/narrow_bounds/narrowbounds/PreciseValues", "highs", "[D", .ref h0_), ("com/example/narrow_bounds/narrowbounds/PreciseValues", "lows", "[D", .ref l0_)]), (h0_, ArC Z .double [.double (own_hi (FP.l2d p1) 0 (FP.i2d p2)), .double 0, .double 0]), (l0_, ArC Z .double [.double (own_lo (FP.l2d p1) 0 (FP.i2d p2)), .double 0, .double 0])] := H44f.front (i := 2) rfl rfl
    have H46f : Hp Z n0 T43.heap [(a3, ObC Z "com/example/narrow_bounds/narrowbounds/PreciseValues" [("com/example/narrow_bounds/narrowbounds/PreciseValues", "highs", "[D", .ref h1_), ("com/example/narrow_bounds/narrowbounds/PreciseValues", "lows", "[D", .ref l1_)]), (h1_, ArC Z .double [.double (own_hi (FP.l2d p1) 0 (FP.i2d p2)), .double (FP.l2d p4), .double 0]), (l1_, ArC Z .double [.double (own_lo (FP.l2d p1) 0 (FP.i2d p2)), .double 0, .double 0]), (a1, ObC Z "com/example/narrow_bounds/narrowbounds/PreciseValues" [("com/example/narrow_bounds/narrowbounds/PreciseValues", "highs", "[D", .ref h0_), ("com/example/narrow_bounds/narrowbounds/PreciseValues", "lows", "[D", .ref l0_)]), (h0_, ArC Z .double [.double (own_hi (FP.l2d p1) 0 (FP.i2d p2)), .double 0, .double 0]), (l0_, ArC Z .double [.double (own_lo (FP.l2d p1) 0 (FP.i2d p2)), .double 0, .double 0])] := H45f.front (i := 2) rfl rfl
    refine g_callV W43 (argsL := [.int (1 : Int32)]) (st := []) (wd_33 hw) (wd_34 hw) (wd_36 hw) (wd_35 hw) (wd_3 hw) (wd_37 hw) (by decide) (a := a3) H46f (i := 0) rfl (c_near l Z a0 hw n0 a3 h1_ l1_ [.double (own_hi (FP.l2d p1) 0 (FP.i2d p2)), .double (FP.l2d p4), .double 0] [.double (own_lo (FP.l2d p1) 0 (FP.i2d p2)), .double 0, .double 0] (1 : Int32) 1 (by decide) (FP.l2d p4) rfl _ _ H46f) pd_4 rfl rfl rfl at_157 (pc' := 160) rfl (by decide) (Wn := 0) (Nat.le_of_eq rfl) (by decide) (kc' := 6) (ks' := 16) rfl rfl (by decide) (by decide) ?_
    intro T47 v47 W47 hp47
    obtain ⟨rfl, H47⟩ := hp47
    show Goes p e below _ (T47.setTop (mkF m 160 #[.val (.int p0), .val (.long p1), .second, .val (.int p2), .val (.long p3), .second, .val (.long p4), .second, .val (.int (0 : Int32)), .val (.int (1 : Int32)), .val (.ref a1), .val (.ref a3), .val (.double (own_hi (FP.l2d p1) 0 (FP.i2d p2))), .second, .val (.double (own_diff (own_hi (FP.l2d p1) 0 (FP.i2d p2)) (own_lo (FP.l2d p1) 0 (FP.i2d p2)) (own_hi (FP.l2d p1) 0 (FP.i2d p2)))), .second, .val (.double (own_hi (FP.l2d p1) 0 (FP.i2d p2))), .second, .val (.double (own_diff (own_hi (FP.l2d p1) 0 (FP.i2d p2)) (own_lo (FP.l2d p1) 0 (FP.i2d p2)) (own_hi (FP.l2d p1) 0 (FP.i2d p2)))), .second, .val (.int (1 : Int32)), .val (.int (1 : Int32)), .unset] [.double (FP.l2d p4)]))
    refine g_lload W47 at_160 (pc' := 162) rfl rfl ?_
    refine g_l2d W47 at_162 (pc' := 163) rfl rfl ?_
    refine g_dcmp W47 at_163 (pc' := 164) rfl rfl ?_
    rw [show (cmpValue (FP.dcmp (FP.l2d p4) (FP.l2d p4)) .l) = (0 : Int32) from dcmpV_self (l2d_fin p4).noNaN .l]
    refine g_if W47 at_164 (pcy := 171) (by decide) (pc' := 167) rfl (fun (h : ¬ (0 : Int32) = (0 : Int32)) => absurd h (by decide)) (fun _ => ?_)
    refine g_iconst W47 at_167 (pc' := 168) rfl (v := (1 : Int32)) (by decide) ?_
    refine g_goto W47 at_168 (pc' := 172) (by decide) ?_
    refine g_istore W47 at_172 (pc' := 174) rfl (ls' := #[.val (.int p0), .val (.long p1), .second, .val (.int p2), .val (.long p3), .second, .val (.long p4), .second, .val (.int (0 : Int32)), .val (.int (1 : Int32)), .val (.ref a1), .val (.ref a3), .val (.double (own_hi (FP.l2d p1) 0 (FP.i2d p2))), .second, .val (.double (own_diff (own_hi (FP.l2d p1) 0 (FP.i2d p2)) (own_lo (FP.l2d p1) 0 (FP.i2d p2)) (own_hi (FP.l2d p1) 0 (FP.i2d p2)))), .second, .val (.double (own_hi (FP.l2d p1) 0 (FP.i2d p2))), .second, .val (.double (own_diff (own_hi (FP.l2d p1) 0 (FP.i2d p2)) (own_lo (FP.l2d p1) 0 (FP.i2d p2)) (own_hi (FP.l2d p1) 0 (FP.i2d p2)))), .second, .val (.int (1 : Int32)), .val (.int (1 : Int32)), .val (.int (1 : Int32))]) rfl ?_
    refine g_iload W47 at_174 (pc' := 176) rfl rfl ?_
    refine g_if W47 at_176 (pcy := 193) (by decide) (pc' := 179) rfl (fun (h : (1 : Int32) = (0 : Int32)) => absurd h (by decide)) (fun _ => ?_)
    refine g_iload W47 at_179 (pc' := 181) rfl rfl ?_
    refine g_if W47 at_181 (pcy := 193) (by decide) (pc' := 184) rfl (fun (h : (1 : Int32) = (0 : Int32)) => absurd h (by decide)) (fun _ => ?_)
    refine g_iload W47 at_184 (pc' := 186) rfl rfl ?_
    refine g_if W47 at_186 (pcy := 193) (by decide) (pc' := 189) rfl (fun (h : (1 : Int32) = (0 : Int32)) => absurd h (by decide)) (fun _ => ?_)
    refine g_iconst W47 at_189 (pc' := 190) rfl (v := (1 : Int32)) (by decide) ?_
    refine g_goto W47 at_190 (pc' := 194) (by decide) ?_
    exact g_zreturn W47 (by decide) at_194 rfl (by decide) (by decide)
  · rw [hn]
    refine g_istore W0 at_6 (pc' := 8) rfl (ls' := #[.val (.int p0), .val (.long p1), .second, .val (.int p2), .val (.long p3), .second, .val (.long p4), .second, .val (.int (1 : Int32)), .unset, .unset, .unset, .unset, .unset, .unset, .unset, .unset, .unset, .unset, .unset, .unset, .unset, .unset]) rfl ?_
    refine g_iload W0 at_8 (pc' := 10) rfl rfl ?_
    refine g_iconst W0 at_10 (pc' := 11) rfl (v := (1 : Int32)) (by decide) ?_
    refine g_iadd W0 at_11 (pc' := 12) rfl (v := (2 : Int32)) (by decide) ?_
    refine g_iconst W0 at_12 (pc' := 13) rfl (v := (3 : Int32)) (by decide) ?_
    refine g_irem W0 at_13 (pc' := 14) rfl (by decide) (v := (2 : Int32)) (by decide) ?_
    refine g_istore W0 at_14 (pc' := 16) rfl (ls' := #[.val (.int p0), .val (.long p1), .second, .val (.int p2), .val (.long p3), .second, .val (.long p4), .second, .val (.int (1 : Int32)), .val (.int (2 : Int32)), .unset, .unset, .unset, .unset, .unset, .unset, .unset, .unset, .unset, .unset, .unset, .unset, .unset]) rfl ?_
    refine g_new W0 (wd_1 hw) (wd_2 hw) (wd_3 hw) (la_PreciseValues hw) (by decide) H0 at_16 (pc' := 19) rfl (kc' := 1) (ks' := 2) rfl rfl (by decide) (by decide) ?_
    intro T48 a48 W48 H48
    refine g_dup W48 at_19 (pc' := 20) rfl rfl ?_
    refine g_iconst W48 at_20 (pc' := 21) rfl (v := (3 : Int32)) (by decide) ?_
    refine g_callI W48 (argsL := [.int (3 : Int32)]) (st := [.ref a48]) rfl (wd_4 hw) (wd_5 hw) (wd_3 hw) (wd_6 hw) (by decide) (a := a48) (c_init l Z a0 hw n0 a48 _ _ H48) pd_1 rfl rfl rfl at_21 (pc' := 24) rfl (by decide) (Wn := 1) (Nat.le_of_eq rfl) (by decide) (kc' := 3) (ks' := 8) rfl rfl (by decide) (by decide) ?_
    intro T49 v49 W49 hp49
    obtain ⟨h0_, l0_, rfl, H49⟩ := hp49
    show Goes p e below _ (T49.setTop (mkF m 24 #[.val (.int p0), .val (.long p1), .second, .val (.int p2), .val (.long p3), .second, .val (.long p4), .second, .val (.int (1 : Int32)), .val (.int (2 : Int32)), .unset, .unset, .unset, .unset, .unset, .unset, .unset, .unset, .unset, .unset, .unset, .unset, .unset] [.ref a48]))
    refine g_astore W49 at_24 (pc' := 26) rfl rfl (ls' := #[.val (.int p0), .val (.long p1), .second, .val (.int p2), .val (.long p3), .second, .val (.long p4), .second, .val (.int (1 : Int32)), .val (.int (2 : Int32)), .val (.ref a48), .unset, .unset, .unset, .unset, .unset, .unset, .unset, .unset, .unset, .unset, .unset, .unset]) rfl ?_
    refine g_new W49 (wd_1 hw) (wd_2 hw) (wd_3 hw) (la_PreciseValues hw) (by decide) H49 at_26 (pc' := 29) rfl (kc' := 4) (ks' := 10) rfl rfl (by decide) (by decide) ?_
    intro T50 a50 W50 H50
    refine g_dup W50 at_29 (pc' := 30) rfl rfl ?_
    refine g_iconst W50 at_30 (pc' := 31) rfl (v := (3 : Int32)) (by decide) ?_
    refine g_callI W50 (argsL := [.int (3 : Int32)]) (st := [.ref a50]) rfl (wd_4 hw) (wd_5 hw) (wd_3 hw) (wd_6 hw) (by decide) (a := a50) (c_init l Z a0 hw n0 a50 _ _ H50) pd_1 rfl rfl rfl at_31 (pc' := 34) rfl (by decide) (Wn := 1) (Nat.le_of_eq rfl) (by decide) (kc' := 6) (ks' := 16) rfl rfl (by decide) (by decide) ?_
    intro T51 v51 W51 hp51
    obtain ⟨h1_, l1_, rfl, H51⟩ := hp51
    show Goes p e below _ (T51.setTop (mkF m 34 #[.val (.int p0), .val (.long p1), .second, .val (.int p2), .val (.long p3), .second, .val (.long p4), .second, .val (.int (1 : Int32)), .val (.int (2 : Int32)), .val (.ref a48), .unset, .unset, .unset, .unset, .unset, .unset, .unset, .unset, .unset, .unset, .unset, .unset] [.ref a50]))
    refine g_astore W51 at_34 (pc' := 36) rfl rfl (ls' := #[.val (.int p0), .val (.long p1), .second, .val (.int p2), .val (.long p3), .second, .val (.long p4), .second, .val (.int (1 : Int32)), .val (.int (2 : Int32)), .val (.ref a48), .val (.ref a50), .unset, .unset, .unset, .unset, .unset, .unset, .unset, .unset, .unset, .unset, .unset]) rfl ?_
    refine g_aload W51 at_36 (pc' := 38) rfl rfl rfl ?_
    refine g_iload W51 at_38 (pc' := 40) rfl rfl ?_
    refine g_lloadN W51 at_40 (pc' := 41) rfl rfl ?_
    refine g_l2d W51 at_41 (pc' := 42) rfl rfl ?_
    have H52f : Hp Z n0 T51.heap [(l0_, ArC Z .double [.double 0, .double 0, .double 0]), (a50, ObC Z "com/example/narrow_bounds/narrowbounds/PreciseValues" [("com/example/narrow_bounds/narrowbounds/PreciseValues", "highs", "[D", .ref h1_), ("com/example/narrow_bounds/narrowbounds/PreciseValues", "lows", "[D", .ref l1_)]), (h1_, ArC Z .double [.double 0, .double 0, .double 0]), (l1_, ArC Z .double [.double 0, .double 0, .double 0]), (a48, ObC Z "com/example/narrow_bounds/narrowbounds/PreciseValues" [("com/example/narrow_bounds/narrowbounds/PreciseValues", "highs", "[D", .ref h0_), ("com/example/narrow_bounds/narrowbounds/PreciseValues", "lows", "[D", .ref l0_)]), (h0_, ArC Z .double [.double 0, .double 0, .double 0])] := H51.front (i := 5) rfl rfl
    have H53f : Hp Z n0 T51.heap [(h0_, ArC Z .double [.double 0, .double 0, .double 0]), (l0_, ArC Z .double [.double 0, .double 0, .double 0]), (a50, ObC Z "com/example/narrow_bounds/narrowbounds/PreciseValues" [("com/example/narrow_bounds/narrowbounds/PreciseValues", "highs", "[D", .ref h1_), ("com/example/narrow_bounds/narrowbounds/PreciseValues", "lows", "[D", .ref l1_)]), (h1_, ArC Z .double [.double 0, .double 0, .double 0]), (l1_, ArC Z .double [.double 0, .double 0, .double 0]), (a48, ObC Z "com/example/narrow_bounds/narrowbounds/PreciseValues" [("com/example/narrow_bounds/narrowbounds/PreciseValues", "highs", "[D", .ref h0_), ("com/example/narrow_bounds/narrowbounds/PreciseValues", "lows", "[D", .ref l0_)])] := H52f.front (i := 5) rfl rfl
    have H54f : Hp Z n0 T51.heap [(a48, ObC Z "com/example/narrow_bounds/narrowbounds/PreciseValues" [("com/example/narrow_bounds/narrowbounds/PreciseValues", "highs", "[D", .ref h0_), ("com/example/narrow_bounds/narrowbounds/PreciseValues", "lows", "[D", .ref l0_)]), (h0_, ArC Z .double [.double 0, .double 0, .double 0]), (l0_, ArC Z .double [.double 0, .double 0, .double 0]), (a50, ObC Z "com/example/narrow_bounds/narrowbounds/PreciseValues" [("com/example/narrow_bounds/narrowbounds/PreciseValues", "highs", "[D", .ref h1_), ("com/example/narrow_bounds/narrowbounds/PreciseValues", "lows", "[D", .ref l1_)]), (h1_, ArC Z .double [.double 0, .double 0, .double 0]), (l1_, ArC Z .double [.double 0, .double 0, .double 0])] := H53f.front (i := 5) rfl rfl
    refine g_callV W51 (argsL := [.int (1 : Int32), .double (FP.l2d p1)]) (st := []) (wd_15 hw) (wd_16 hw) (wd_18 hw) (wd_17 hw) (wd_3 hw) (wd_19 hw) (by decide) (a := a48) H54f (i := 0) rfl (c_set l Z a0 hw n0 a48 h0_ l0_ [.double 0, .double 0, .double 0] [.double 0, .double 0, .double 0] (1 : Int32) 1 (by decide) (show 1 < 3 by decide) (show 1 < 3 by decide) (FP.l2d p1) _ _ H54f) pd_2 rfl rfl rfl at_42 (pc' := 45) rfl (by decide) (Wn := 0) (Nat.le_of_eq rfl) (by decide) (kc' := 6) (ks' := 16) rfl rfl (by decide) (by decide) ?_
    intro T55 v55 W55 hp55
    obtain ⟨rfl, H55⟩ := hp55
    replace H55 : Hp Z n0 T55.heap [(a48, ObC Z "com/example/narrow_bounds/narrowbounds/PreciseValues" [("com/example/narrow_bounds/narrowbounds/PreciseValues", "highs", "[D", .ref h0_), ("com/example/narrow_bounds/narrowbounds/PreciseValues", "lows", "[D", .ref l0_)]), (h0_, ArC Z .double [.double 0, .double (FP.l2d p1), .double 0]), (l0_, ArC Z .double [.double 0, .double 0, .double 0]), (a50, ObC Z "com/example/narrow_bounds/narrowbounds/PreciseValues" [("com/example/narrow_bounds/narrowbounds/PreciseValues", "highs", "[D", .ref h1_), ("com/example/narrow_bounds/narrowbounds/PreciseValues", "lows", "[D", .ref l1_)]), (h1_, ArC Z .double [.double 0, .double 0, .double 0]), (l1_, ArC Z .double [.double 0, .double 0, .double 0])] := H55
    show Goes p e below _ (T55.setTop (mkF m 45 #[.val (.int p0), .val (.long p1), .second, .val (.int p2), .val (.long p3), .second, .val (.long p4), .second, .val (.int (1 : Int32)), .val (.int (2 : Int32)), .val (.ref a48), .val (.ref a50), .unset, .unset, .unset, .unset, .unset, .unset, .unset, .unset, .unset, .unset, .unset] []))
    refine g_aload W55 at_45 (pc' := 47) rfl rfl rfl ?_
    refine g_iload W55 at_47 (pc' := 49) rfl rfl ?_
    refine g_iloadN W55 at_49 (pc' := 50) rfl rfl ?_
    refine g_i2d W55 at_50 (pc' := 51) rfl rfl ?_
    have H56f : Hp Z n0 T55.heap [(l0_, ArC Z .double [.double 0, .double 0, .double 0]), (a48, ObC Z "com/example/narrow_bounds/narrowbounds/PreciseValues" [("com/example/narrow_bounds/narrowbounds/PreciseValues", "highs", "[D", .ref h0_), ("com/example/narrow_bounds/narrowbounds/PreciseValues", "lows", "[D", .ref l0_)]), (h0_, ArC Z .double [.double 0, .double (FP.l2d p1), .double 0]), (a50, ObC Z "com/example/narrow_bounds/narrowbounds/PreciseValues" [("com/example/narrow_bounds/narrowbounds/PreciseValues", "highs", "[D", .ref h1_), ("com/example/narrow_bounds/narrowbounds/PreciseValues", "lows", "[D", .ref l1_)]), (h1_, ArC Z .double [.double 0, .double 0, .double 0]), (l1_, ArC Z .double [.double 0, .double 0, .double 0])] := H55.front (i := 2) rfl rfl
    have H57f : Hp Z n0 T55.heap [(h0_, ArC Z .double [.double 0, .double (FP.l2d p1), .double 0]), (l0_, ArC Z .double [.double 0, .double 0, .double 0]), (a48, ObC Z "com/example/narrow_bounds/narrowbounds/PreciseValues" [("com/example/narrow_bounds/narrowbounds/PreciseValues", "highs", "[D", .ref h0_), ("com/example/narrow_bounds/narrowbounds/PreciseValues", "lows", "[D", .ref l0_)]), (a50, ObC Z "com/example/narrow_bounds/narrowbounds/PreciseValues" [("com/example/narrow_bounds/narrowbounds/PreciseValues", "highs", "[D", .ref h1_), ("com/example/narrow_bounds/narrowbounds/PreciseValues", "lows", "[D", .ref l1_)]), (h1_, ArC Z .double [.double 0, .double 0, .double 0]), (l1_, ArC Z .double [.double 0, .double 0, .double 0])] := H56f.front (i := 2) rfl rfl
    have H58f : Hp Z n0 T55.heap [(a48, ObC Z "com/example/narrow_bounds/narrowbounds/PreciseValues" [("com/example/narrow_bounds/narrowbounds/PreciseValues", "highs", "[D", .ref h0_), ("com/example/narrow_bounds/narrowbounds/PreciseValues", "lows", "[D", .ref l0_)]), (h0_, ArC Z .double [.double 0, .double (FP.l2d p1), .double 0]), (l0_, ArC Z .double [.double 0, .double 0, .double 0]), (a50, ObC Z "com/example/narrow_bounds/narrowbounds/PreciseValues" [("com/example/narrow_bounds/narrowbounds/PreciseValues", "highs", "[D", .ref h1_), ("com/example/narrow_bounds/narrowbounds/PreciseValues", "lows", "[D", .ref l1_)]), (h1_, ArC Z .double [.double 0, .double 0, .double 0]), (l1_, ArC Z .double [.double 0, .double 0, .double 0])] := H57f.front (i := 2) rfl rfl
    refine g_callV W55 (argsL := [.int (1 : Int32), .double (FP.i2d p2)]) (st := []) (wd_20 hw) (wd_21 hw) (wd_23 hw) (wd_22 hw) (wd_3 hw) (wd_24 hw) (by decide) (a := a48) H58f (i := 0) rfl (c_add l Z a0 hw n0 a48 h0_ l0_ [.double 0, .double (FP.l2d p1), .double 0] [.double 0, .double 0, .double 0] (1 : Int32) 1 (by decide) (FP.l2d p1) 0 rfl rfl (FP.i2d p2) ((l2d_mag p1).mono (by decide)) (own_mag0 (by decide)) ((i2d_mag p2).mono (by decide)) _ _ H58f) pd_2 rfl rfl rfl at_51 (pc' := 54) rfl (by decide) (Wn := 0) (Nat.le_of_eq rfl) (by decide) (kc' := 6) (ks' := 16) rfl rfl (by decide) (by decide) ?_
    intro T59 v59 W59 hp59
    obtain ⟨rfl, H59⟩ := hp59
    replace H59 : Hp Z n0 T59.heap [(a48, ObC Z "com/example/narrow_bounds/narrowbounds/PreciseValues" [("com/example/narrow_bounds/narrowbounds/PreciseValues", "highs", "[D", .ref h0_), ("com/example/narrow_bounds/narrowbounds/PreciseValues", "lows", "[D", .ref l0_)]), (h0_, ArC Z .double [.double 0, .double (own_hi (FP.l2d p1) 0 (FP.i2d p2)), .double 0]), (l0_, ArC Z .double [.double 0, .double (own_lo (FP.l2d p1) 0 (FP.i2d p2)), .double 0]), (a50, ObC Z "com/example/narrow_bounds/narrowbounds/PreciseValues" [("com/example/narrow_bounds/narrowbounds/PreciseValues", "highs", "[D", .ref h1_), ("com/example/narrow_bounds/narrowbounds/PreciseValues", "lows", "[D", .ref l1_)]), (h1_, ArC Z .double [.double 0, .double 0, .double 0]), (l1_, ArC Z .double [.double 0, .double 0, .double 0])] := H59
    show Goes p e below _ (T59.setTop (mkF m 54 #[.val (.int p0), .val (.long p1), .second, .val (.int p2), .val (.long p3), .second, .val (.long p4), .second, .val (.int (1 : Int32)), .val (.int (2 : Int32)), .val (.ref a48), .val (.ref a50), .unset, .unset, .unset, .unset, .unset, .unset, .unset, .unset, .unset, .unset, .unset] []))
    refine g_aload W59 at_54 (pc' := 56) rfl rfl rfl ?_
    refine g_iload W59 at_56 (pc' := 58) rfl rfl ?_
    refine g_lload W59 at_58 (pc' := 60) rfl rfl ?_
    refine g_l2d W59 at_60 (pc' := 61) rfl rfl ?_
    have H60f : Hp Z n0 T59.heap [(l1_, ArC Z .double [.double 0, .double 0, .double 0]), (a48, ObC Z "com/example/narrow_bounds/narrowbounds/PreciseValues" [("com/example/narrow_bounds/narrowbounds/PreciseValues", "highs", "[D", .ref h0_), ("com/example/narrow_bounds/narrowbounds/PreciseValues", "lows", "[D", .ref l0_)]), (h0_, ArC Z .double [.double 0, .double (own_hi (FP.l2d p1) 0 (FP.i2d p2)), .double 0]), (l0_, ArC Z .double [.double 0, .double (own_lo (FP.l2d p1) 0 (FP.i2d p2)), .double 0]), (a50, ObC Z "com/example/narrow_bounds/narrowbounds/PreciseValues" [("com/example/narrow_bounds/narrowbounds/PreciseValues", "highs", "[D", .ref h1_), ("com/example/narrow_bounds/narrowbounds/PreciseValues", "lows", "[D", .ref l1_)]), (h1_, ArC Z .double [.double 0, .double 0, .double 0])] := H59.front (i := 5) rfl rfl
    have H61f : Hp Z n0 T59.heap [(h1_, ArC Z .double [.double 0, .double 0, .double 0]), (l1_, ArC Z .double [.double 0, .double 0, .double 0]), (a48, ObC Z "com/example/narrow_bounds/narrowbounds/PreciseValues" [("com/example/narrow_bounds/narrowbounds/PreciseValues", "highs", "[D", .ref h0_), ("com/example/narrow_bounds/narrowbounds/PreciseValues", "lows", "[D", .ref l0_)]), (h0_, ArC Z .double [.double 0, .double (own_hi (FP.l2d p1) 0 (FP.i2d p2)), .double 0]), (l0_, ArC Z .double [.double 0, .double (own_lo (FP.l2d p1) 0 (FP.i2d p2)), .double 0]), (a50, ObC Z "com/example/narrow_bounds/narrowbounds/PreciseValues" [("com/example/narrow_bounds/narrowbounds/PreciseValues", "highs", "[D", .ref h1_), ("com/example/narrow_bounds/narrowbounds/PreciseValues", "lows", "[D", .ref l1_)])] := H60f.front (i := 5) rfl rfl
    have H62f : Hp Z n0 T59.heap [(a50, ObC Z "com/example/narrow_bounds/narrowbounds/PreciseValues" [("com/example/narrow_bounds/narrowbounds/PreciseValues", "highs", "[D", .ref h1_), ("com/example/narrow_bounds/narrowbounds/PreciseValues", "lows", "[D", .ref l1_)]), (h1_, ArC Z .double [.double 0, .double 0, .double 0]), (l1_, ArC Z .double [.double 0, .double 0, .double 0]), (a48, ObC Z "com/example/narrow_bounds/narrowbounds/PreciseValues" [("com/example/narrow_bounds/narrowbounds/PreciseValues", "highs", "[D", .ref h0_), ("com/example/narrow_bounds/narrowbounds/PreciseValues", "lows", "[D", .ref l0_)]), (h0_, ArC Z .double [.double 0, .double (own_hi (FP.l2d p1) 0 (FP.i2d p2)), .double 0]), (l0_, ArC Z .double [.double 0, .double (own_lo (FP.l2d p1) 0 (FP.i2d p2)), .double 0])] := H61f.front (i := 5) rfl rfl
    refine g_callV W59 (argsL := [.int (1 : Int32), .double (FP.l2d p3)]) (st := []) (wd_15 hw) (wd_16 hw) (wd_18 hw) (wd_17 hw) (wd_3 hw) (wd_19 hw) (by decide) (a := a50) H62f (i := 0) rfl (c_set l Z a0 hw n0 a50 h1_ l1_ [.double 0, .double 0, .double 0] [.double 0, .double 0, .double 0] (1 : Int32) 1 (by decide) (show 1 < 3 by decide) (show 1 < 3 by decide) (FP.l2d p3) _ _ H62f) pd_2 rfl rfl rfl at_61 (pc' := 64) rfl (by decide) (Wn := 0) (Nat.le_of_eq rfl) (by decide) (kc' := 6) (ks' := 16) rfl rfl (by decide) (by decide) ?_
    intro T63 v63 W63 hp63
    obtain ⟨rfl, H63⟩ := hp63
    replace H63 : Hp Z n0 T63.heap [(a50, ObC Z "com/example/narrow_bounds/narrowbounds/PreciseValues" [("com/example/narrow_bounds/narrowbounds/PreciseValues", "highs", "[D", .ref h1_), ("com/example/narrow_bounds/narrowbounds/PreciseValues", "lows", "[D", .ref l1_)]), (h1_, ArC Z .double [.double 0, .double (FP.l2d p3), .double 0]), (l1_, ArC Z .double [.double 0, .double 0, .double 0]), (a48, ObC Z "com/example/narrow_bounds/narrowbounds/PreciseValues" [("com/example/narrow_bounds/narrowbounds/PreciseValues", "highs", "[D", .ref h0_), ("com/example/narrow_bounds/narrowbounds/PreciseValues", "lows", "[D", .ref l0_)]), (h0_, ArC Z .double [.double 0, .double (own_hi (FP.l2d p1) 0 (FP.i2d p2)), .double 0]), (l0_, ArC Z .double [.double 0, .double (own_lo (FP.l2d p1) 0 (FP.i2d p2)), .double 0])] := H63
    show Goes p e below _ (T63.setTop (mkF m 64 #[.val (.int p0), .val (.long p1), .second, .val (.int p2), .val (.long p3), .second, .val (.long p4), .second, .val (.int (1 : Int32)), .val (.int (2 : Int32)), .val (.ref a48), .val (.ref a50), .unset, .unset, .unset, .unset, .unset, .unset, .unset, .unset, .unset, .unset, .unset] []))
    refine g_aload W63 at_64 (pc' := 66) rfl rfl rfl ?_
    refine g_iload W63 at_66 (pc' := 68) rfl rfl ?_
    refine g_lload W63 at_68 (pc' := 70) rfl rfl ?_
    refine g_l2d W63 at_70 (pc' := 71) rfl rfl ?_
    have H64f : Hp Z n0 T63.heap [(l1_, ArC Z .double [.double 0, .double 0, .double 0]), (a50, ObC Z "com/example/narrow_bounds/narrowbounds/PreciseValues" [("com/example/narrow_bounds/narrowbounds/PreciseValues", "highs", "[D", .ref h1_), ("com/example/narrow_bounds/narrowbounds/PreciseValues", "lows", "[D", .ref l1_)]), (h1_, ArC Z .double [.double 0, .double (FP.l2d p3), .double 0]), (a48, ObC Z "com/example/narrow_bounds/narrowbounds/PreciseValues" [("com/example/narrow_bounds/narrowbounds/PreciseValues", "highs", "[D", .ref h0_), ("com/example/narrow_bounds/narrowbounds/PreciseValues", "lows", "[D", .ref l0_)]), (h0_, ArC Z .double [.double 0, .double (own_hi (FP.l2d p1) 0 (FP.i2d p2)), .double 0]), (l0_, ArC Z .double [.double 0, .double (own_lo (FP.l2d p1) 0 (FP.i2d p2)), .double 0])] := H63.front (i := 2) rfl rfl
    have H65f : Hp Z n0 T63.heap [(h1_, ArC Z .double [.double 0, .double (FP.l2d p3), .double 0]), (l1_, ArC Z .double [.double 0, .double 0, .double 0]), (a50, ObC Z "com/example/narrow_bounds/narrowbounds/PreciseValues" [("com/example/narrow_bounds/narrowbounds/PreciseValues", "highs", "[D", .ref h1_), ("com/example/narrow_bounds/narrowbounds/PreciseValues", "lows", "[D", .ref l1_)]), (a48, ObC Z "com/example/narrow_bounds/narrowbounds/PreciseValues" [("com/example/narrow_bounds/narrowbounds/PreciseValues", "highs", "[D", .ref h0_), ("com/example/narrow_bounds/narrowbounds/PreciseValues", "lows", "[D", .ref l0_)]), (h0_, ArC Z .double [.double 0, .double (own_hi (FP.l2d p1) 0 (FP.i2d p2)), .double 0]), (l0_, ArC Z .double [.double 0, .double (own_lo (FP.l2d p1) 0 (FP.i2d p2)), .double 0])] := H64f.front (i := 2) rfl rfl
    have H66f : Hp Z n0 T63.heap [(a50, ObC Z "com/example/narrow_bounds/narrowbounds/PreciseValues" [("com/example/narrow_bounds/narrowbounds/PreciseValues", "highs", "[D", .ref h1_), ("com/example/narrow_bounds/narrowbounds/PreciseValues", "lows", "[D", .ref l1_)]), (h1_, ArC Z .double [.double 0, .double (FP.l2d p3), .double 0]), (l1_, ArC Z .double [.double 0, .double 0, .double 0]), (a48, ObC Z "com/example/narrow_bounds/narrowbounds/PreciseValues" [("com/example/narrow_bounds/narrowbounds/PreciseValues", "highs", "[D", .ref h0_), ("com/example/narrow_bounds/narrowbounds/PreciseValues", "lows", "[D", .ref l0_)]), (h0_, ArC Z .double [.double 0, .double (own_hi (FP.l2d p1) 0 (FP.i2d p2)), .double 0]), (l0_, ArC Z .double [.double 0, .double (own_lo (FP.l2d p1) 0 (FP.i2d p2)), .double 0])] := H65f.front (i := 2) rfl rfl
    refine g_callV W63 (argsL := [.int (2 : Int32), .double (FP.l2d p4)]) (st := []) (wd_15 hw) (wd_16 hw) (wd_18 hw) (wd_17 hw) (wd_3 hw) (wd_19 hw) (by decide) (a := a50) H66f (i := 0) rfl (c_set l Z a0 hw n0 a50 h1_ l1_ [.double 0, .double (FP.l2d p3), .double 0] [.double 0, .double 0, .double 0] (2 : Int32) 2 (by decide) (show 2 < 3 by decide) (show 2 < 3 by decide) (FP.l2d p4) _ _ H66f) pd_2 rfl rfl rfl at_71 (pc' := 74) rfl (by decide) (Wn := 0) (Nat.le_of_eq rfl) (by decide) (kc' := 6) (ks' := 16) rfl rfl (by decide) (by decide) ?_
    intro T67 v67 W67 hp67
    obtain ⟨rfl, H67⟩ := hp67
    replace H67 : Hp Z n0 T67.heap [(a50, ObC Z "com/example/narrow_bounds/narrowbounds/PreciseValues" [("com/example/narrow_bounds/narrowbounds/PreciseValues", "highs", "[D", .ref h1_), ("com/example/narrow_bounds/narrowbounds/PreciseValues", "lows", "[D", .ref l1_)]), (h1_, ArC Z .double [.double 0, .double (FP.l2d p3), .double (FP.l2d p4)]), (l1_, ArC Z .double [.double 0, .double 0, .double 0]), (a48, ObC Z "com/example/narrow_bounds/narrowbounds/PreciseValues" [("com/example/narrow_bounds/narrowbounds/PreciseValues", "highs", "[D", .ref h0_), ("com/example/narrow_bounds/narrowbounds/PreciseValues", "lows", "[D", .ref l0_)]), (h0_, ArC Z .double [.double 0, .double (own_hi (FP.l2d p1) 0 (FP.i2d p2)), .double 0]), (l0_, ArC Z .double [.double 0, .double (own_lo (FP.l2d p1) 0 (FP.i2d p2)), .double 0])] := H67
    show Goes p e below _ (T67.setTop (mkF m 74 #[.val (.int p0), .val (.long p1), .second, .val (.int p2), .val (.long p3), .second, .val (.long p4), .second, .val (.int (1 : Int32)), .val (.int (2 : Int32)), .val (.ref a48), .val (.ref a50), .unset, .unset, .unset, .unset, .unset, .unset, .unset, .unset, .unset, .unset, .unset] []))
    refine g_aload W67 at_74 (pc' := 76) rfl rfl rfl ?_
    refine g_iload W67 at_76 (pc' := 78) rfl rfl ?_
    refine g_aload W67 at_78 (pc' := 80) rfl rfl rfl ?_
    have H68f : Hp Z n0 T67.heap [(l0_, ArC Z .double [.double 0, .double (own_lo (FP.l2d p1) 0 (FP.i2d p2)), .double 0]), (a50, ObC Z "com/example/narrow_bounds/narrowbounds/PreciseValues" [("com/example/narrow_bounds/narrowbounds/PreciseValues", "highs", "[D", .ref h1_), ("com/example/narrow_bounds/narrowbounds/PreciseValues", "lows", "[D", .ref l1_)]), (h1_, ArC Z .double [.double 0, .double (FP.l2d p3), .double (FP.l2d p4)]), (l1_, ArC Z .double [.double 0, .double 0, .double 0]), (a48, ObC Z "com/example/narrow_bounds/narrowbounds/PreciseValues" [("com/example/narrow_bounds/narrowbounds/PreciseValues", "highs", "[D", .ref h0_), ("com/example/narrow_bounds/narrowbounds/PreciseValues", "lows", "[D", .ref l0_)]), (h0_, ArC Z .double [.double 0, .double (own_hi (FP.l2d p1) 0 (FP.i2d p2)), .double 0])] := H67.front (i := 5) rfl rfl
    have H69f : Hp Z n0 T67.heap [(h0_, ArC Z .double [.double 0, .double (own_hi (FP.l2d p1) 0 (FP.i2d p2)), .double 0]), (l0_, ArC Z .double [.double 0, .double (own_lo (FP.l2d p1) 0 (FP.i2d p2)), .double 0]), (a50, ObC Z "com/example/narrow_bounds/narrowbounds/PreciseValues" [("com/example/narrow_bounds/narrowbounds/PreciseValues", "highs", "[D", .ref h1_), ("com/example/narrow_bounds/narrowbounds/PreciseValues", "lows", "[D", .ref l1_)]), (h1_, ArC Z .double [.double 0, .double (FP.l2d p3), .double (FP.l2d p4)]), (l1_, ArC Z .double [.double 0, .double 0, .double 0]), (a48, ObC Z "com/example/narrow_bounds/narrowbounds/PreciseValues" [("com/example/narrow_bounds/narrowbounds/PreciseValues", "highs", "[D", .ref h0_), ("com/example/narrow_bounds/narrowbounds/PreciseValues", "lows", "[D", .ref l0_)])] := H68f.front (i := 5) rfl rfl
    have H70f : Hp Z n0 T67.heap [(a48, ObC Z "com/example/narrow_bounds/narrowbounds/PreciseValues" [("com/example/narrow_bounds/narrowbounds/PreciseValues", "highs", "[D", .ref h0_), ("com/example/narrow_bounds/narrowbounds/PreciseValues", "lows", "[D", .ref l0_)]), (h0_, ArC Z .double [.double 0, .double (own_hi (FP.l2d p1) 0 (FP.i2d p2)), .double 0]), (l0_, ArC Z .double [.double 0, .double (own_lo (FP.l2d p1) 0 (FP.i2d p2)), .double 0]), (a50, ObC Z "com/example/narrow_bounds/narrowbounds/PreciseValues" [("com/example/narrow_bounds/narrowbounds/PreciseValues", "highs", "[D", .ref h1_), ("com/example/narrow_bounds/narrowbounds/PreciseValues", "lows", "[D", .ref l1_)]), (h1_, ArC Z .double [.double 0, .double (FP.l2d p3), .double (FP.l2d p4)]), (l1_, ArC Z .double [.double 0, .double 0, .double 0])] := H69f.front (i := 5) rfl rfl
    have H71f : Hp Z n0 T67.heap [(l1_, ArC Z .double [.double 0, .double 0, .double 0]), (a48, ObC Z "com/example/narrow_bounds/narrowbounds/PreciseValues" [("com/example/narrow_bounds/narrowbounds/PreciseValues", "highs", "[D", .ref h0_), ("com/example/narrow_bounds/narrowbounds/PreciseValues", "lows", "[D", .ref l0_)]), (h0_, ArC Z .double [.double 0, .double (own_hi (FP.l2d p1) 0 (FP.i2d p2)), .double 0]), (l0_, ArC Z .double [.double 0, .double (own_lo (FP.l2d p1) 0 (FP.i2d p2)), .double 0]), (a50, ObC Z "com/example/narrow_bounds/narrowbounds/PreciseValues" [("com/example/narrow_bounds/narrowbounds/PreciseValues", "highs", "[D", .ref h1_), ("com/example/narrow_bounds/narrowbounds/PreciseValues", "lows", "[D", .ref l1_)]), (h1_, ArC Z .double [.double 0, .double (FP.l2d p3), .double (FP.l2d p4)])] := H70f.front (i := 5) rfl rfl
    have H72f : Hp Z n0 T67.heap [(h1_, ArC Z .double [.double 0, .double (FP.l2d p3), .double (FP.l2d p4)]), (l1_, ArC Z .double [.double 0, .double 0, .double 0]), (a48, ObC Z "com/example/narrow_bounds/narrowbounds/PreciseValues" [("com/example/narrow_bounds/narrowbounds/PreciseValues", "highs", "[D", .ref h0_), ("com/example/narrow_bounds/narrowbounds/PreciseValues", "lows", "[D", .ref l0_)]), (h0_, ArC Z .double [.double 0, .double (own_hi (FP.l2d p1) 0 (FP.i2d p2)), .double 0]), (l0_, ArC Z .double [.double 0, .double (own_lo (FP.l2d p1) 0 (FP.i2d p2)), .double 0]), (a50, ObC Z "com/example/narrow_bounds/narrowbounds/PreciseValues" [("com/example/narrow_bounds/narrowbounds/PreciseValues", "highs", "[D", .ref h1_), ("com/example/narrow_bounds/narrowbounds/PreciseValues", "lows", "[D", .ref l1_)])] := H71f.front (i := 5) rfl rfl
    have H73f : Hp Z n0 T67.heap [(a50, ObC Z "com/example/narrow_bounds/narrowbounds/PreciseValues" [("com/example/narrow_bounds/narrowbounds/PreciseValues", "highs", "[D", .ref h1_), ("com/example/narrow_bounds/narrowbounds/PreciseValues", "lows", "[D", .ref l1_)]), (h1_, ArC Z .double [.double 0, .double (FP.l2d p3), .double (FP.l2d p4)]), (l1_, ArC Z .double [.double 0, .double 0, .double 0]), (a48, ObC Z "com/example/narrow_bounds/narrowbounds/PreciseValues" [("com/example/narrow_bounds/narrowbounds/PreciseValues", "highs", "[D", .ref h0_), ("com/example/narrow_bounds/narrowbounds/PreciseValues", "lows", "[D", .ref l0_)]), (h0_, ArC Z .double [.double 0, .double (own_hi (FP.l2d p1) 0 (FP.i2d p2)), .double 0]), (l0_, ArC Z .double [.double 0, .double (own_lo (FP.l2d p1) 0 (FP.i2d p2)), .double 0])] := H72f.front (i := 5) rfl rfl
    refine g_callV W67 (argsL := [.int (1 : Int32), .ref a48]) (st := []) (wd_28 hw) (wd_29 hw) (wd_31 hw) (wd_30 hw) (wd_3 hw) (wd_32 hw) (by decide) (a := a50) H73f (i := 0) rfl (c_copy l Z a0 hw n0 a50 h1_ l1_ a48 h0_ l0_ [.double 0, .double (FP.l2d p3), .double (FP.l2d p4)] [.double 0, .double 0, .double 0] [.double 0, .double (own_hi (FP.l2d p1) 0 (FP.i2d p2)), .double 0] [.double 0, .double (own_lo (FP.l2d p1) 0 (FP.i2d p2)), .double 0] (1 : Int32) 1 (by decide) (show 1 < 3 by decide) (show 1 < 3 by decide) (own_hi (FP.l2d p1) 0 (FP.i2d p2)) (own_lo (FP.l2d p1) 0 (FP.i2d p2)) rfl rfl _ _ H73f) pd_3 rfl rfl rfl at_80 (pc' := 83) rfl (by decide) (Wn := 0) (Nat.le_of_eq rfl) (by decide) (kc' := 6) (ks' := 16) rfl rfl (by decide) (by decide) ?_
    intro T74 v74 W74 hp74
    obtain ⟨rfl, H74⟩ := hp74
    replace H74 : Hp Z n0 T74.heap [(a50, ObC Z "com/example/narrow_bounds/narrowbounds/PreciseValues" [("com/example/narrow_bounds/narrowbounds/PreciseValues", "highs", "[D", .ref h1_), ("com/example/narrow_bounds/narrowbounds/PreciseValues", "lows", "[D", .ref l1_)]), (h1_, ArC Z .double [.double 0, .double (own_hi (FP.l2d p1) 0 (FP.i2d p2)), .double (FP.l2d p4)]), (l1_, ArC Z .double [.double 0, .double (own_lo (FP.l2d p1) 0 (FP.i2d p2)), .double 0]), (a48, ObC Z "com/example/narrow_bounds/narrowbounds/PreciseValues" [("com/example/narrow_bounds/narrowbounds/PreciseValues", "highs", "[D", .ref h0_), ("com/example/narrow_bounds/narrowbounds/PreciseValues", "lows", "[D", .ref l0_)]), (h0_, ArC Z .double [.double 0, .double (own_hi (FP.l2d p1) 0 (FP.i2d p2)), .double 0]), (l0_, ArC Z .double [.double 0, .double (own_lo (FP.l2d p1) 0 (FP.i2d p2)), .double 0])] := H74
    show Goes p e below _ (T74.setTop (mkF m 83 #[.val (.int p0), .val (.long p1), .second, .val (.int p2), .val (.long p3), .second, .val (.long p4), .second, .val (.int (1 : Int32)), .val (.int (2 : Int32)), .val (.ref a48), .val (.ref a50), .unset, .unset, .unset, .unset, .unset, .unset, .unset, .unset, .unset, .unset, .unset] []))
    refine g_aload W74 at_83 (pc' := 85) rfl rfl rfl ?_
    refine g_iload W74 at_85 (pc' := 87) rfl rfl ?_
    have mH : Mag64 1222 (own_hi (FP.l2d p1) 0 (FP.i2d p2)) := (own_hi_mag ((l2d_mag p1).mono (by decide)) (own_mag0 (by decide)) ((i2d_mag p2).mono (by decide))).mono (by decide)
    have mL : Mag64 1222 (own_lo (FP.l2d p1) 0 (FP.i2d p2)) := own_lo_mag ((l2d_mag p1).mono (by decide)) (own_mag0 (by decide)) ((i2d_mag p2).mono (by decide))
    have H75f : Hp Z n0 T74.heap [(l0_, ArC Z .double [.double 0, .double (own_lo (FP.l2d p1) 0 (FP.i2d p2)), .double 0]), (a50, ObC Z "com/example/narrow_bounds/narrowbounds/PreciseValues" [("com/example/narrow_bounds/narrowbounds/PreciseValues", "highs", "[D", .ref h1_), ("com/example/narrow_bounds/narrowbounds/PreciseValues", "lows", "[D", .ref l1_)]), (h1_, ArC Z .double [.double 0, .double (own_hi (FP.l2d p1) 0 (FP.i2d p2)), .double (FP.l2d p4)]), (l1_, ArC Z .double [.double 0, .double (own_lo (FP.l2d p1) 0 (FP.i2d p2)), .double 0]), (a48, ObC Z "com/example/narrow_bounds/narrowbounds/PreciseValues" [("com/example/narrow_bounds/narrowbounds/PreciseValues", "highs", "[D", .ref h0_), ("com/example/narrow_bounds/narrowbounds/PreciseValues", "lows", "[D", .ref l0_)]), (h0_, ArC Z .double [.double 0, .double (own_hi (FP.l2d p1) 0 (FP.i2d p2)), .double 0])] := H74.front (i := 5) rfl rfl
    have H76f : Hp Z n0 T74.heap [(h0_, ArC Z .double [.double 0, .double (own_hi (FP.l2d p1) 0 (FP.i2d p2)), .double 0]), (l0_, ArC Z .double [.double 0, .double (own_lo (FP.l2d p1) 0 (FP.i2d p2)), .double 0]), (a50, ObC Z "com/example/narrow_bounds/narrowbounds/PreciseValues" [("com/example/narrow_bounds/narrowbounds/PreciseValues", "highs", "[D", .ref h1_), ("com/example/narrow_bounds/narrowbounds/PreciseValues", "lows", "[D", .ref l1_)]), (h1_, ArC Z .double [.double 0, .double (own_hi (FP.l2d p1) 0 (FP.i2d p2)), .double (FP.l2d p4)]), (l1_, ArC Z .double [.double 0, .double (own_lo (FP.l2d p1) 0 (FP.i2d p2)), .double 0]), (a48, ObC Z "com/example/narrow_bounds/narrowbounds/PreciseValues" [("com/example/narrow_bounds/narrowbounds/PreciseValues", "highs", "[D", .ref h0_), ("com/example/narrow_bounds/narrowbounds/PreciseValues", "lows", "[D", .ref l0_)])] := H75f.front (i := 5) rfl rfl
    have H77f : Hp Z n0 T74.heap [(a48, ObC Z "com/example/narrow_bounds/narrowbounds/PreciseValues" [("com/example/narrow_bounds/narrowbounds/PreciseValues", "highs", "[D", .ref h0_), ("com/example/narrow_bounds/narrowbounds/PreciseValues", "lows", "[D", .ref l0_)]), (h0_, ArC Z .double [.double 0, .double (own_hi (FP.l2d p1) 0 (FP.i2d p2)), .double 0]), (l0_, ArC Z .double [.double 0, .double (own_lo (FP.l2d p1) 0 (FP.i2d p2)), .double 0]), (a50, ObC Z "com/example/narrow_bounds/narrowbounds/PreciseValues" [("com/example/narrow_bounds/narrowbounds/PreciseValues", "highs", "[D", .ref h1_), ("com/example/narrow_bounds/narrowbounds/PreciseValues", "lows", "[D", .ref l1_)]), (h1_, ArC Z .double [.double 0, .double (own_hi (FP.l2d p1) 0 (FP.i2d p2)), .double (FP.l2d p4)]), (l1_, ArC Z .double [.double 0, .double (own_lo (FP.l2d p1) 0 (FP.i2d p2)), .double 0])] := H76f.front (i := 5) rfl rfl
    refine g_callV W74 (argsL := [.int (1 : Int32)]) (st := []) (wd_33 hw) (wd_34 hw) (wd_36 hw) (wd_35 hw) (wd_3 hw) (wd_37 hw) (by decide) (a := a48) H77f (i := 0) rfl (c_near l Z a0 hw n0 a48 h0_ l0_ [.double 0, .double (own_hi (FP.l2d p1) 0 (FP.i2d p2)), .double 0] [.double 0, .double (own_lo (FP.l2d p1) 0 (FP.i2d p2)), .double 0] (1 : Int32) 1 (by decide) (own_hi (FP.l2d p1) 0 (FP.i2d p2)) rfl _ _ H77f) pd_4 rfl rfl rfl at_87 (pc' := 90) rfl (by decide) (Wn := 0) (Nat.le_of_eq rfl) (by decide) (kc' := 6) (ks' := 16) rfl rfl (by decide) (by decide) ?_
    intro T78 v78 W78 hp78
    obtain ⟨rfl, H78⟩ := hp78
    show Goes p e below _ (T78.setTop (mkF m 90 #[.val (.int p0), .val (.long p1), .second, .val (.int p2), .val (.long p3), .second, .val (.long p4), .second, .val (.int (1 : Int32)), .val (.int (2 : Int32)), .val (.ref a48), .val (.ref a50), .unset, .unset, .unset, .unset, .unset, .unset, .unset, .unset, .unset, .unset, .unset] [.double (own_hi (FP.l2d p1) 0 (FP.i2d p2))]))
    refine g_dstore W78 at_90 (pc' := 92) rfl (ls' := #[.val (.int p0), .val (.long p1), .second, .val (.int p2), .val (.long p3), .second, .val (.long p4), .second, .val (.int (1 : Int32)), .val (.int (2 : Int32)), .val (.ref a48), .val (.ref a50), .val (.double (own_hi (FP.l2d p1) 0 (FP.i2d p2))), .second, .unset, .unset, .unset, .unset, .unset, .unset, .unset, .unset, .unset]) rfl ?_
    refine g_aload W78 at_92 (pc' := 94) rfl rfl rfl ?_
    refine g_iload W78 at_94 (pc' := 96) rfl rfl ?_
    refine g_dload W78 at_96 (pc' := 98) rfl rfl ?_
    have H79f : Hp Z n0 T78.heap [(l0_, ArC Z .double [.double 0, .double (own_lo (FP.l2d p1) 0 (FP.i2d p2)), .double 0]), (a48, ObC Z "com/example/narrow_bounds/narrowbounds/PreciseValues" [("com/example/narrow_bounds/narrowbounds/PreciseValues", "highs", "[D", .ref h0_), ("com/example/narrow_bounds/narrowbounds/PreciseValues", "lows", "[D", .ref l0_)]), (h0_, ArC Z .double [.double 0, .double (own_hi (FP.l2d p1) 0 (FP.i2d p2)), .double 0]), (a50, ObC Z "com/example/narrow_bounds/narrowbounds/PreciseValues" [("com/example/narrow_bounds/narrowbounds/PreciseValues", "highs", "[D", .ref h1_), ("com/example/narrow_bounds/narrowbounds/PreciseValues", "lows", "[D", .ref l1_)]), (h1_, ArC Z .double [.double 0, .double (own_hi (FP.l2d p1) 0 (FP.i2d p2)), .double (FP.l2d p4)]), (l1_, ArC Z .double [.double 0, .double (own_lo (FP.l2d p1) 0 (FP.i2d p2)), .double 0])] := H78.front (i := 2) rfl rfl
    have H80f : Hp Z n0 T78.heap [(h0_, ArC Z .double [.double 0, .double (own_hi (FP.l2d p1) 0 (FP.i2d p2)), .double 0]), (l0_, ArC Z .double [.double 0, .double (own_lo (FP.l2d p1) 0 (FP.i2d p2)), .double 0]), (a48, ObC Z "com/example/narrow_bounds/narrowbounds/PreciseValues" [("com/example/narrow_bounds/narrowbounds/PreciseValues", "highs", "[D", .ref h0_), ("com/example/narrow_bounds/narrowbounds/PreciseValues", "lows", "[D", .ref l0_)]), (a50, ObC Z "com/example/narrow_bounds/narrowbounds/PreciseValues" [("com/example/narrow_bounds/narrowbounds/PreciseValues", "highs", "[D", .ref h1_), ("com/example/narrow_bounds/narrowbounds/PreciseValues", "lows", "[D", .ref l1_)]), (h1_, ArC Z .double [.double 0, .double (own_hi (FP.l2d p1) 0 (FP.i2d p2)), .double (FP.l2d p4)]), (l1_, ArC Z .double [.double 0, .double (own_lo (FP.l2d p1) 0 (FP.i2d p2)), .double 0])] := H79f.front (i := 2) rfl rfl
    have H81f : Hp Z n0 T78.heap [(a48, ObC Z "com/example/narrow_bounds/narrowbounds/PreciseValues" [("com/example/narrow_bounds/narrowbounds/PreciseValues", "highs", "[D", .ref h0_), ("com/example/narrow_bounds/narrowbounds/PreciseValues", "lows", "[D", .ref l0_)]), (h0_, ArC Z .double [.double 0, .double (own_hi (FP.l2d p1) 0 (FP.i2d p2)), .double 0]), (l0_, ArC Z .double [.double 0, .double (own_lo (FP.l2d p1) 0 (FP.i2d p2)), .double 0]), (a50, ObC Z "com/example/narrow_bounds/narrowbounds/PreciseValues" [("com/example/narrow_bounds/narrowbounds/PreciseValues", "highs", "[D", .ref h1_), ("com/example/narrow_bounds/narrowbounds/PreciseValues", "lows", "[D", .ref l1_)]), (h1_, ArC Z .double [.double 0, .double (own_hi (FP.l2d p1) 0 (FP.i2d p2)), .double (FP.l2d p4)]), (l1_, ArC Z .double [.double 0, .double (own_lo (FP.l2d p1) 0 (FP.i2d p2)), .double 0])] := H80f.front (i := 2) rfl rfl
    refine g_callV W78 (argsL := [.int (1 : Int32), .double (own_hi (FP.l2d p1) 0 (FP.i2d p2))]) (st := []) (wd_38 hw) (wd_39 hw) (wd_41 hw) (wd_40 hw) (wd_3 hw) (wd_42 hw) (by decide) (a := a48) H81f (i := 0) rfl (c_diff l Z a0 hw n0 a48 h0_ l0_ [.double 0, .double (own_hi (FP.l2d p1) 0 (FP.i2d p2)), .double 0] [.double 0, .double (own_lo (FP.l2d p1) 0 (FP.i2d p2)), .double 0] (1 : Int32) 1 (by decide) (own_hi (FP.l2d p1) 0 (FP.i2d p2)) (own_lo (FP.l2d p1) 0 (FP.i2d p2)) rfl rfl (own_hi (FP.l2d p1) 0 (FP.i2d p2)) mH mL mH _ _ H81f) pd_5 rfl rfl rfl at_98 (pc' := 101) rfl (by decide) (Wn := 0) (Nat.le_of_eq rfl) (by decide) (kc' := 6) (ks' := 16) rfl rfl (by decide) (by decide) ?_
    intro T82 v82 W82 hp82
    obtain ⟨rfl, H82⟩ := hp82
    show Goes p e below _ (T82.setTop (mkF m 101 #[.val (.int p0), .val (.long p1), .second, .val (.int p2), .val (.long p3), .second, .val (.long p4), .second, .val (.int (1 : Int32)), .val (.int (2 : Int32)), .val (.ref a48), .val (.ref a50), .val (.double (own_hi (FP.l2d p1) 0 (FP.i2d p2))), .second, .unset, .unset, .unset, .unset, .unset, .unset, .unset, .unset, .unset] [.double (own_diff (own_hi (FP.l2d p1) 0 (FP.i2d p2)) (own_lo (FP.l2d p1) 0 (FP.i2d p2)) (own_hi (FP.l2d p1) 0 (FP.i2d p2)))]))
    refine g_dstore W82 at_101 (pc' := 103) rfl (ls' := #[.val (.int p0), .val (.long p1), .second, .val (.int p2), .val (.long p3), .second, .val (.long p4), .second, .val (.int (1 : Int32)), .val (.int (2 : Int32)), .val (.ref a48), .val (.ref a50), .val (.double (own_hi (FP.l2d p1) 0 (FP.i2d p2))), .second, .val (.double (own_diff (own_hi (FP.l2d p1) 0 (FP.i2d p2)) (own_lo (FP.l2d p1) 0 (FP.i2d p2)) (own_hi (FP.l2d p1) 0 (FP.i2d p2)))), .second, .unset, .unset, .unset, .unset, .unset, .unset, .unset]) rfl ?_
    refine g_aload W82 at_103 (pc' := 105) rfl rfl rfl ?_
    refine g_iload W82 at_105 (pc' := 107) rfl rfl ?_
    have H83f : Hp Z n0 T82.heap [(l1_, ArC Z .double [.double 0, .double (own_lo (FP.l2d p1) 0 (FP.i2d p2)), .double 0]), (a48, ObC Z "com/example/narrow_bounds/narrowbounds/PreciseValues" [("com/example/narrow_bounds/narrowbounds/PreciseValues", "highs", "[D", .ref h0_), ("com/example/narrow_bounds/narrowbounds/PreciseValues", "lows", "[D", .ref l0_)]), (h0_, ArC Z .double [.double 0, .double (own_hi (FP.l2d p1) 0 (FP.i2d p2)), .double 0]), (l0_, ArC Z .double [.double 0, .double (own_lo (FP.l2d p1) 0 (FP.i2d p2)), .double 0]), (a50, ObC Z "com/example/narrow_bounds/narrowbounds/PreciseValues" [("com/example/narrow_bounds/narrowbounds/PreciseValues", "highs", "[D", .ref h1_), ("com/example/narrow_bounds/narrowbounds/PreciseValues", "lows", "[D", .ref l1_)]), (h1_, ArC Z .double [.double 0, .double (own_hi (FP.l2d p1) 0 (FP.i2d p2)), .double (FP.l2d p4)])] := H82.front (i := 5) rfl rfl
    have H84f : Hp Z n0 T82.heap [(h1_, ArC Z .double [.double 0, .double (own_hi (FP.l2d p1) 0 (FP.i2d p2)), .double (FP.l2d p4)]), (l1_, ArC Z .double [.double 0, .double (own_lo (FP.l2d p1) 0 (FP.i2d p2)), .double 0]), (a48, ObC Z "com/example/narrow_bounds/narrowbounds/PreciseValues" [("com/example/narrow_bounds/narrowbounds/PreciseValues", "highs", "[D", .ref h0_), ("com/example/narrow_bounds/narrowbounds/PreciseValues", "lows", "[D", .ref l0_)]), (h0_, ArC Z .double [.double 0, .double (own_hi (FP.l2d p1) 0 (FP.i2d p2)), .double 0]), (l0_, ArC Z .double [.double 0, .double (own_lo (FP.l2d p1) 0 (FP.i2d p2)), .double 0]), (a50, ObC Z "com/example/narrow_bounds/narrowbounds/PreciseValues" [("com/example/narrow_bounds/narrowbounds/PreciseValues", "highs", "[D", .ref h1_), ("com/example/narrow_bounds/narrowbounds/PreciseValues", "lows", "[D", .ref l1_)])] := H83f.front (i := 5) rfl rfl
    have H85f : Hp Z n0 T82.heap [(a50, ObC Z "com/example/narrow_bounds/narrowbounds/PreciseValues" [("com/example/narrow_bounds/narrowbounds/PreciseValues", "highs", "[D", .ref h1_), ("com/example/narrow_bounds/narrowbounds/PreciseValues", "lows", "[D", .ref l1_)]), (h1_, ArC Z .double [.double 0, .double (own_hi (FP.l2d p1) 0 (FP.i2d p2)), .double (FP.l2d p4)]), (l1_, ArC Z .double [.double 0, .double (own_lo (FP.l2d p1) 0 (FP.i2d p2)), .double 0]), (a48, ObC Z "com/example/narrow_bounds/narrowbounds/PreciseValues" [("com/example/narrow_bounds/narrowbounds/PreciseValues", "highs", "[D", .ref h0_), ("com/example/narrow_bounds/narrowbounds/PreciseValues", "lows", "[D", .ref l0_)]), (h0_, ArC Z .double [.double 0, .double (own_hi (FP.l2d p1) 0 (FP.i2d p2)), .double 0]), (l0_, ArC Z .double [.double 0, .double (own_lo (FP.l2d p1) 0 (FP.i2d p2)), .double 0])] := H84f.front (i := 5) rfl rfl
    refine g_callV W82 (argsL := [.int (1 : Int32)]) (st := []) (wd_33 hw) (wd_34 hw) (wd_36 hw) (wd_35 hw) (wd_3 hw) (wd_37 hw) (by decide) (a := a50) H85f (i := 0) rfl (c_near l Z a0 hw n0 a50 h1_ l1_ [.double 0, .double (own_hi (FP.l2d p1) 0 (FP.i2d p2)), .double (FP.l2d p4)] [.double 0, .double (own_lo (FP.l2d p1) 0 (FP.i2d p2)), .double 0] (1 : Int32) 1 (by decide) (own_hi (FP.l2d p1) 0 (FP.i2d p2)) rfl _ _ H85f) pd_4 rfl rfl rfl at_107 (pc' := 110) rfl (by decide) (Wn := 0) (Nat.le_of_eq rfl) (by decide) (kc' := 6) (ks' := 16) rfl rfl (by decide) (by decide) ?_
    intro T86 v86 W86 hp86
    obtain ⟨rfl, H86⟩ := hp86
    show Goes p e below _ (T86.setTop (mkF m 110 #[.val (.int p0), .val (.long p1), .second, .val (.int p2), .val (.long p3), .second, .val (.long p4), .second, .val (.int (1 : Int32)), .val (.int (2 : Int32)), .val (.ref a48), .val (.ref a50), .val (.double (own_hi (FP.l2d p1) 0 (FP.i2d p2))), .second, .val (.double (own_diff (own_hi (FP.l2d p1) 0 (FP.i2d p2)) (own_lo (FP.l2d p1) 0 (FP.i2d p2)) (own_hi (FP.l2d p1) 0 (FP.i2d p2)))), .second, .unset, .unset, .unset, .unset, .unset, .unset, .unset] [.double (own_hi (FP.l2d p1) 0 (FP.i2d p2))]))
    refine g_dstore W86 at_110 (pc' := 112) rfl (ls' := #[.val (.int p0), .val (.long p1), .second, .val (.int p2), .val (.long p3), .second, .val (.long p4), .second, .val (.int (1 : Int32)), .val (.int (2 : Int32)), .val (.ref a48), .val (.ref a50), .val (.double (own_hi (FP.l2d p1) 0 (FP.i2d p2))), .second, .val (.double (own_diff (own_hi (FP.l2d p1) 0 (FP.i2d p2)) (own_lo (FP.l2d p1) 0 (FP.i2d p2)) (own_hi (FP.l2d p1) 0 (FP.i2d p2)))), .second, .val (.double (own_hi (FP.l2d p1) 0 (FP.i2d p2))), .second, .unset, .unset, .unset, .unset, .unset]) rfl ?_
    refine g_aload W86 at_112 (pc' := 114) rfl rfl rfl ?_
    refine g_iload W86 at_114 (pc' := 116) rfl rfl ?_
    refine g_dload W86 at_116 (pc' := 118) rfl rfl ?_
    have H87f : Hp Z n0 T86.heap [(l1_, ArC Z .double [.double 0, .double (own_lo (FP.l2d p1) 0 (FP.i2d p2)), .double 0]), (a50, ObC Z "com/example/narrow_bounds/narrowbounds/PreciseValues" [("com/example/narrow_bounds/narrowbounds/PreciseValues", "highs", "[D", .ref h1_), ("com/example/narrow_bounds/narrowbounds/PreciseValues", "lows", "[D", .ref l1_)]), (h1_, ArC Z .double [.double 0, .double (own_hi (FP.l2d p1) 0 (FP.i2d p2)), .double (FP.l2d p4)]), (a48, ObC Z "com/example/narrow_bounds/narrowbounds/PreciseValues" [("com/example/narrow_bounds/narrowbounds/PreciseValues", "highs", "[D", .ref h0_), ("com/example/narrow_bounds/narrowbounds/PreciseValues", "lows", "[D", .ref l0_)]), (h0_, ArC Z .double [.double 0, .double (own_hi (FP.l2d p1) 0 (FP.i2d p2)), .double 0]), (l0_, ArC Z .double [.double 0, .double (own_lo (FP.l2d p1) 0 (FP.i2d p2)), .double 0])] := H86.front (i := 2) rfl rfl
    have H88f : Hp Z n0 T86.heap [(h1_, ArC Z .double [.double 0, .double (own_hi (FP.l2d p1) 0 (FP.i2d p2)), .double (FP.l2d p4)]), (l1_, ArC Z .double [.double 0, .double (own_lo (FP.l2d p1) 0 (FP.i2d p2)), .double 0]), (a50, ObC Z "com/example/narrow_bounds/narrowbounds/PreciseValues" [("com/example/narrow_bounds/narrowbounds/PreciseValues", "highs", "[D", .ref h1_), ("com/example/narrow_bounds/narrowbounds/PreciseValues", "lows", "[D", .ref l1_)]), (a48, ObC Z "com/example/narrow_bounds/narrowbounds/PreciseValues" [("com/example/narrow_bounds/narrowbounds/PreciseValues", "highs", "[D", .ref h0_), ("com/example/narrow_bounds/narrowbounds/PreciseValues", "lows", "[D", .ref l0_)]), (h0_, ArC Z .double [.double 0, .double (own_hi (FP.l2d p1) 0 (FP.i2d p2)), .double 0]), (l0_, ArC Z .double [.double 0, .double (own_lo (FP.l2d p1) 0 (FP.i2d p2)), .double 0])] := H87f.front (i := 2) rfl rfl
    have H89f : Hp Z n0 T86.heap [(a50, ObC Z "com/example/narrow_bounds/narrowbounds/PreciseValues" [("com/example/narrow_bounds/narrowbounds/PreciseValues", "highs", "[D", .ref h1_), ("com/example/narrow_bounds/narrowbounds/PreciseValues", "lows", "[D", .ref l1_)]), (h1_, ArC Z .double [.double 0, .double (own_hi (FP.l2d p1) 0 (FP.i2d p2)), .double (FP.l2d p4)]), (l1_, ArC Z .double [.double 0, .double (own_lo (FP.l2d p1) 0 (FP.i2d p2)), .double 0]), (a48, ObC Z "com/example/narrow_bounds/narrowbounds/PreciseValues" [("com/example/narrow_bounds/narrowbounds/PreciseValues", "highs", "[D", .ref h0_), ("com/example/narrow_bounds/narrowbounds/PreciseValues", "lows", "[D", .ref l0_)]), (h0_, ArC Z .double [.double 0, .double (own_hi (FP.l2d p1) 0 (FP.i2d p2)), .double 0]), (l0_, ArC Z .double [.double 0, .double (own_lo (FP.l2d p1) 0 (FP.i2d p2)), .double 0])] := H88f.front (i := 2) rfl rfl
    refine g_callV W86 (argsL := [.int (1 : Int32), .double (own_hi (FP.l2d p1) 0 (FP.i2d p2))]) (st := []) (wd_38 hw) (wd_39 hw) (wd_41 hw) (wd_40 hw) (wd_3 hw) (wd_42 hw) (by decide) (a := a50) H89f (i := 0) rfl (c_diff l Z a0 hw n0 a50 h1_ l1_ [.double 0, .double (own_hi (FP.l2d p1) 0 (FP.i2d p2)), .double (FP.l2d p4)] [.double 0, .double (own_lo (FP.l2d p1) 0 (FP.i2d p2)), .double 0] (1 : Int32) 1 (by decide) (own_hi (FP.l2d p1) 0 (FP.i2d p2)) (own_lo (FP.l2d p1) 0 (FP.i2d p2)) rfl rfl (own_hi (FP.l2d p1) 0 (FP.i2d p2)) mH mL mH _ _ H89f) pd_5 rfl rfl rfl at_118 (pc' := 121) rfl (by decide) (Wn := 0) (Nat.le_of_eq rfl) (by decide) (kc' := 6) (ks' := 16) rfl rfl (by decide) (by decide) ?_
    intro T90 v90 W90 hp90
    obtain ⟨rfl, H90⟩ := hp90
    show Goes p e below _ (T90.setTop (mkF m 121 #[.val (.int p0), .val (.long p1), .second, .val (.int p2), .val (.long p3), .second, .val (.long p4), .second, .val (.int (1 : Int32)), .val (.int (2 : Int32)), .val (.ref a48), .val (.ref a50), .val (.double (own_hi (FP.l2d p1) 0 (FP.i2d p2))), .second, .val (.double (own_diff (own_hi (FP.l2d p1) 0 (FP.i2d p2)) (own_lo (FP.l2d p1) 0 (FP.i2d p2)) (own_hi (FP.l2d p1) 0 (FP.i2d p2)))), .second, .val (.double (own_hi (FP.l2d p1) 0 (FP.i2d p2))), .second, .unset, .unset, .unset, .unset, .unset] [.double (own_diff (own_hi (FP.l2d p1) 0 (FP.i2d p2)) (own_lo (FP.l2d p1) 0 (FP.i2d p2)) (own_hi (FP.l2d p1) 0 (FP.i2d p2)))]))
    refine g_dstore W90 at_121 (pc' := 123) rfl (ls' := #[.val (.int p0), .val (.long p1), .second, .val (.int p2), .val (.long p3), .second, .val (.long p4), .second, .val (.int (1 : Int32)), .val (.int (2 : Int32)), .val (.ref a48), .val (.ref a50), .val (.double (own_hi (FP.l2d p1) 0 (FP.i2d p2))), .second, .val (.double (own_diff (own_hi (FP.l2d p1) 0 (FP.i2d p2)) (own_lo (FP.l2d p1) 0 (FP.i2d p2)) (own_hi (FP.l2d p1) 0 (FP.i2d p2)))), .second, .val (.double (own_hi (FP.l2d p1) 0 (FP.i2d p2))), .second, .val (.double (own_diff (own_hi (FP.l2d p1) 0 (FP.i2d p2)) (own_lo (FP.l2d p1) 0 (FP.i2d p2)) (own_hi (FP.l2d p1) 0 (FP.i2d p2)))), .second, .unset, .unset, .unset]) rfl ?_
    refine g_dload W90 at_123 (pc' := 125) rfl rfl ?_
    refine g_dload W90 at_125 (pc' := 127) rfl rfl ?_
    refine g_dcmp W90 at_127 (pc' := 128) rfl rfl ?_
    rw [show (cmpValue (FP.dcmp (own_hi (FP.l2d p1) 0 (FP.i2d p2)) (own_hi (FP.l2d p1) 0 (FP.i2d p2))) .l) = (0 : Int32) from dcmpV_self (own_nn mH (by decide)) .l]
    refine g_if W90 at_128 (pcy := 135) (by decide) (pc' := 131) rfl (fun (h : ¬ (0 : Int32) = (0 : Int32)) => absurd h (by decide)) (fun _ => ?_)
    refine g_iconst W90 at_131 (pc' := 132) rfl (v := (1 : Int32)) (by decide) ?_
    refine g_goto W90 at_132 (pc' := 136) (by decide) ?_
    refine g_istore W90 at_136 (pc' := 138) rfl (ls' := #[.val (.int p0), .val (.long p1), .second, .val (.int p2), .val (.long p3), .second, .val (.long p4), .second, .val (.int (1 : Int32)), .val (.int (2 : Int32)), .val (.ref a48), .val (.ref a50), .val (.double (own_hi (FP.l2d p1) 0 (FP.i2d p2))), .second, .val (.double (own_diff (own_hi (FP.l2d p1) 0 (FP.i2d p2)) (own_lo (FP.l2d p1) 0 (FP.i2d p2)) (own_hi (FP.l2d p1) 0 (FP.i2d p2)))), .second, .val (.double (own_hi (FP.l2d p1) 0 (FP.i2d p2))), .second, .val (.double (own_diff (own_hi (FP.l2d p1) 0 (FP.i2d p2)) (own_lo (FP.l2d p1) 0 (FP.i2d p2)) (own_hi (FP.l2d p1) 0 (FP.i2d p2)))), .second, .val (.int (1 : Int32)), .unset, .unset]) rfl ?_
    refine g_dload W90 at_138 (pc' := 140) rfl rfl ?_
    refine g_dload W90 at_140 (pc' := 142) rfl rfl ?_
    refine g_dcmp W90 at_142 (pc' := 143) rfl rfl ?_
    rw [show (cmpValue (FP.dcmp (own_diff (own_hi (FP.l2d p1) 0 (FP.i2d p2)) (own_lo (FP.l2d p1) 0 (FP.i2d p2)) (own_hi (FP.l2d p1) 0 (FP.i2d p2))) (own_diff (own_hi (FP.l2d p1) 0 (FP.i2d p2)) (own_lo (FP.l2d p1) 0 (FP.i2d p2)) (own_hi (FP.l2d p1) 0 (FP.i2d p2)))) .l) = (0 : Int32) from dcmpV_self (own_nn (own_d4 mH mL mH) (by decide)) .l]
    refine g_if W90 at_143 (pcy := 150) (by decide) (pc' := 146) rfl (fun (h : ¬ (0 : Int32) = (0 : Int32)) => absurd h (by decide)) (fun _ => ?_)
    refine g_iconst W90 at_146 (pc' := 147) rfl (v := (1 : Int32)) (by decide) ?_
    refine g_goto W90 at_147 (pc' := 151) (by decide) ?_
    refine g_istore W90 at_151 (pc' := 153) rfl (ls' := #[.val (.int p0), .val (.long p1), .second, .val (.int p2), .val (.long p3), .second, .val (.long p4), .second, .val (.int (1 : Int32)), .val (.int (2 : Int32)), .val (.ref a48), .val (.ref a50), .val (.double (own_hi (FP.l2d p1) 0 (FP.i2d p2))), .second, .val (.double (own_diff (own_hi (FP.l2d p1) 0 (FP.i2d p2)) (own_lo (FP.l2d p1) 0 (FP.i2d p2)) (own_hi (FP.l2d p1) 0 (FP.i2d p2)))), .second, .val (.double (own_hi (FP.l2d p1) 0 (FP.i2d p2))), .second, .val (.double (own_diff (own_hi (FP.l2d p1) 0 (FP.i2d p2)) (own_lo (FP.l2d p1) 0 (FP.i2d p2)) (own_hi (FP.l2d p1) 0 (FP.i2d p2)))), .second, .val (.int (1 : Int32)), .val (.int (1 : Int32)), .unset]) rfl ?_
    refine g_aload W90 at_153 (pc' := 155) rfl rfl rfl ?_
    refine g_iload W90 at_155 (pc' := 157) rfl rfl ?_
    have H91f : Hp Z n0 T90.heap [(l1_, ArC Z .double [.double 0, .double (own_lo (FP.l2d p1) 0 (FP.i2d p2)), .double 0]), (a50, ObC Z "com/example/narrow_bounds/narrowbounds/PreciseValues" [("com/example/narrow_bounds/narrowbounds/PreciseValues", "highs", "[D", .ref h1_), ("com/example/narrow_bounds/narrowbounds/PreciseValues", "lows", "[D", .ref l1_)]), (h1_, ArC Z .double [.double 0, .double (own_hi (FP.l2d p1) 0 (FP.i2d p2)), .double (FP.l2d p4)]), (a48, ObC Z "com/example/narrow_bounds/narrowbounds/PreciseValues" [("com/example/narrow_bounds/narrowbounds/PreciseValues", "highs", "[D", .ref h0_), ("com/example/narrow_bounds/narrowbounds/PreciseValues", "lows", "[D", .ref l0_)]), (h0_, ArC Z .double [.double 0, .double (own_hi (FP.l2d p1) 0 (FP.i2d p2)), .double 0]), (l0_, ArC Z .double [.double 0, .double (own_lo (FP.l2d p1) 0 (FP.i2d p2)), .double 0])] := H90.front (i := 2) rfl rfl
    have H92f : Hp Z n0 T90.heap [(h1_, ArC Z .double [.double 0, .double (own_hi (FP.l2d p1) 0 (FP.i2d p2)), .double (FP.l2d p4)]), (l1_, ArC Z .double [.double 0, .double (own_lo (FP.l2d p1) 0 (FP.i2d p2)), .double 0]), (a50, ObC Z "com/example/narrow_bounds/narrowbounds/PreciseValues" [("com/example/narrow_bounds/narrowbounds/PreciseValues", "highs", "[D", .ref h1_), ("com/example/narrow_bounds/narrowbounds/PreciseValues", "lows", "[D", .ref l1_)]), (a48, ObC Z "com/example/narrow_bounds/narrowbounds/PreciseValues" [("com/example/narrow_bounds/narrowbounds/PreciseValues", "highs", "[D", .ref h0_), ("com/example/narrow_bounds/narrowbounds/PreciseValues", "lows", "[D", .ref l0_)]), (h0_, ArC Z .double [.double 0, .double (own_hi (FP.l2d p1) 0 (FP.i2d p2)), .double 0]), (l0_, ArC Z .double [.double 0, .double (own_lo (FP.l2d p1) 0 (FP.i2d p2)), .double 0])] := H91f.front (i := 2) rfl rfl
    have H93f : Hp Z n0 T90.heap [(a50, ObC Z "com/example/narrow_bounds/narrowbounds/PreciseValues" [("com/example/narrow_bounds/narrowbounds/PreciseValues", "highs", "[D", .ref h1_), ("com/example/narrow_bounds/narrowbounds/PreciseValues", "lows", "[D", .ref l1_)]), (h1_, ArC Z .double [.double 0, .double (own_hi (FP.l2d p1) 0 (FP.i2d p2)), .double (FP.l2d p4)]), (l1_, ArC Z .double [.double 0, .double (own_lo (FP.l2d p1) 0 (FP.i2d p2)), .double 0]), (a48, ObC Z "com/example/narrow_bounds/narrowbounds/PreciseValues" [("com/example/narrow_bounds/narrowbounds/PreciseValues", "highs", "[D", .ref h0_), ("com/example/narrow_bounds/narrowbounds/PreciseValues", "lows", "[D", .ref l0_)]), (h0_, ArC Z .double [.double 0, .double (own_hi (FP.l2d p1) 0 (FP.i2d p2)), .double 0]), (l0_, ArC Z .double [.double 0, .double (own_lo (FP.l2d p1) 0 (FP.i2d p2)), .double 0])] := H92f.front (i := 2) rfl rfl
    refine g_callV W90 (argsL := [.int (2 : Int32)]) (st := []) (wd_33 hw) (wd_34 hw) (wd_36 hw) (wd_35 hw) (wd_3 hw) (wd_37 hw) (by decide) (a := a50) H93f (i := 0) rfl (c_near l Z a0 hw n0 a50 h1_ l1_ [.double 0, .double (own_hi (FP.l2d p1) 0 (FP.i2d p2)), .double (FP.l2d p4)] [.double 0, .double (own_lo (FP.l2d p1) 0 (FP.i2d p2)), .double 0] (2 : Int32) 2 (by decide) (FP.l2d p4) rfl _ _ H93f) pd_4 rfl rfl rfl at_157 (pc' := 160) rfl (by decide) (Wn := 0) (Nat.le_of_eq rfl) (by decide) (kc' := 6) (ks' := 16) rfl rfl (by decide) (by decide) ?_
    intro T94 v94 W94 hp94
    obtain ⟨rfl, H94⟩ := hp94
    show Goes p e below _ (T94.setTop (mkF m 160 #[.val (.int p0), .val (.long p1), .second, .val (.int p2), .val (.long p3), .second, .val (.long p4), .second, .val (.int (1 : Int32)), .val (.int (2 : Int32)), .val (.ref a48), .val (.ref a50), .val (.double (own_hi (FP.l2d p1) 0 (FP.i2d p2))), .second, .val (.double (own_diff (own_hi (FP.l2d p1) 0 (FP.i2d p2)) (own_lo (FP.l2d p1) 0 (FP.i2d p2)) (own_hi (FP.l2d p1) 0 (FP.i2d p2)))), .second, .val (.double (own_hi (FP.l2d p1) 0 (FP.i2d p2))), .second, .val (.double (own_diff (own_hi (FP.l2d p1) 0 (FP.i2d p2)) (own_lo (FP.l2d p1) 0 (FP.i2d p2)) (own_hi (FP.l2d p1) 0 (FP.i2d p2)))), .second, .val (.int (1 : Int32)), .val (.int (1 : Int32)), .unset] [.double (FP.l2d p4)]))
    refine g_lload W94 at_160 (pc' := 162) rfl rfl ?_
    refine g_l2d W94 at_162 (pc' := 163) rfl rfl ?_
    refine g_dcmp W94 at_163 (pc' := 164) rfl rfl ?_
    rw [show (cmpValue (FP.dcmp (FP.l2d p4) (FP.l2d p4)) .l) = (0 : Int32) from dcmpV_self (l2d_fin p4).noNaN .l]
    refine g_if W94 at_164 (pcy := 171) (by decide) (pc' := 167) rfl (fun (h : ¬ (0 : Int32) = (0 : Int32)) => absurd h (by decide)) (fun _ => ?_)
    refine g_iconst W94 at_167 (pc' := 168) rfl (v := (1 : Int32)) (by decide) ?_
    refine g_goto W94 at_168 (pc' := 172) (by decide) ?_
    refine g_istore W94 at_172 (pc' := 174) rfl (ls' := #[.val (.int p0), .val (.long p1), .second, .val (.int p2), .val (.long p3), .second, .val (.long p4), .second, .val (.int (1 : Int32)), .val (.int (2 : Int32)), .val (.ref a48), .val (.ref a50), .val (.double (own_hi (FP.l2d p1) 0 (FP.i2d p2))), .second, .val (.double (own_diff (own_hi (FP.l2d p1) 0 (FP.i2d p2)) (own_lo (FP.l2d p1) 0 (FP.i2d p2)) (own_hi (FP.l2d p1) 0 (FP.i2d p2)))), .second, .val (.double (own_hi (FP.l2d p1) 0 (FP.i2d p2))), .second, .val (.double (own_diff (own_hi (FP.l2d p1) 0 (FP.i2d p2)) (own_lo (FP.l2d p1) 0 (FP.i2d p2)) (own_hi (FP.l2d p1) 0 (FP.i2d p2)))), .second, .val (.int (1 : Int32)), .val (.int (1 : Int32)), .val (.int (1 : Int32))]) rfl ?_
    refine g_iload W94 at_174 (pc' := 176) rfl rfl ?_
    refine g_if W94 at_176 (pcy := 193) (by decide) (pc' := 179) rfl (fun (h : (1 : Int32) = (0 : Int32)) => absurd h (by decide)) (fun _ => ?_)
    refine g_iload W94 at_179 (pc' := 181) rfl rfl ?_
    refine g_if W94 at_181 (pcy := 193) (by decide) (pc' := 184) rfl (fun (h : (1 : Int32) = (0 : Int32)) => absurd h (by decide)) (fun _ => ?_)
    refine g_iload W94 at_184 (pc' := 186) rfl rfl ?_
    refine g_if W94 at_186 (pcy := 193) (by decide) (pc' := 189) rfl (fun (h : (1 : Int32) = (0 : Int32)) => absurd h (by decide)) (fun _ => ?_)
    refine g_iconst W94 at_189 (pc' := 190) rfl (v := (1 : Int32)) (by decide) ?_
    refine g_goto W94 at_190 (pc' := 194) (by decide) ?_
    exact g_zreturn W94 (by decide) at_194 rfl (by decide) (by decide)
  · rw [hn]
    refine g_istore W0 at_6 (pc' := 8) rfl (ls' := #[.val (.int p0), .val (.long p1), .second, .val (.int p2), .val (.long p3), .second, .val (.long p4), .second, .val (.int (2 : Int32)), .unset, .unset, .unset, .unset, .unset, .unset, .unset, .unset, .unset, .unset, .unset, .unset, .unset, .unset]) rfl ?_
    refine g_iload W0 at_8 (pc' := 10) rfl rfl ?_
    refine g_iconst W0 at_10 (pc' := 11) rfl (v := (1 : Int32)) (by decide) ?_
    refine g_iadd W0 at_11 (pc' := 12) rfl (v := (3 : Int32)) (by decide) ?_
    refine g_iconst W0 at_12 (pc' := 13) rfl (v := (3 : Int32)) (by decide) ?_
    refine g_irem W0 at_13 (pc' := 14) rfl (by decide) (v := (0 : Int32)) (by decide) ?_
    refine g_istore W0 at_14 (pc' := 16) rfl (ls' := #[.val (.int p0), .val (.long p1), .second, .val (.int p2), .val (.long p3), .second, .val (.long p4), .second, .val (.int (2 : Int32)), .val (.int (0 : Int32)), .unset, .unset, .unset, .unset, .unset, .unset, .unset, .unset, .unset, .unset, .unset, .unset, .unset]) rfl ?_
    refine g_new W0 (wd_1 hw) (wd_2 hw) (wd_3 hw) (la_PreciseValues hw) (by decide) H0 at_16 (pc' := 19) rfl (kc' := 1) (ks' := 2) rfl rfl (by decide) (by decide) ?_
    intro T95 a95 W95 H95
    refine g_dup W95 at_19 (pc' := 20) rfl rfl ?_
    refine g_iconst W95 at_20 (pc' := 21) rfl (v := (3 : Int32)) (by decide) ?_
    refine g_callI W95 (argsL := [.int (3 : Int32)]) (st := [.ref a95]) rfl (wd_4 hw) (wd_5 hw) (wd_3 hw) (wd_6 hw) (by decide) (a := a95) (c_init l Z a0 hw n0 a95 _ _ H95) pd_1 rfl rfl rfl at_21 (pc' := 24) rfl (by decide) (Wn := 1) (Nat.le_of_eq rfl) (by decide) (kc' := 3) (ks' := 8) rfl rfl (by decide) (by decide) ?_
    intro T96 v96 W96 hp96
    obtain ⟨h0_, l0_, rfl, H96⟩ := hp96
    show Goes p e below _ (T96.setTop (mkF m 24 #[.val (.int p0), .val (.long p1), .second, .val (.int p2), .val (.long p3), .second, .val (.long p4), .second, .val (.int (2 : Int32)), .val (.int (0 : Int32)), .unset, .unset, .unset, .unset, .unset, .unset, .unset, .unset, .unset, .unset, .unset, .unset, .unset] [.ref a95]))
    refine g_astore W96 at_24 (pc' := 26) rfl rfl (ls' := #[.val (.int p0), .val (.long p1), .second, .val (.int p2), .val (.long p3), .second, .val (.long p4), .second, .val (.int (2 : Int32)), .val (.int (0 : Int32)), .val (.ref a95), .unset, .unset, .unset, .unset, .unset, .unset, .unset, .unset, .unset, .unset, .unset, .unset]) rfl ?_
    refine g_new W96 (wd_1 hw) (wd_2 hw) (wd_3 hw) (la_PreciseValues hw) (by decide) H96 at_26 (pc' := 29) rfl (kc' := 4) (ks' := 10) rfl rfl (by decide) (by decide) ?_
    intro T97 a97 W97 H97
    refine g_dup W97 at_29 (pc' := 30) rfl rfl ?_
    refine g_iconst W97 at_30 (pc' := 31) rfl (v := (3 : Int32)) (by decide) ?_
    refine g_callI W97 (argsL := [.int (3 : Int32)]) (st := [.ref a97]) rfl (wd_4 hw) (wd_5 hw) (wd_3 hw) (wd_6 hw) (by decide) (a := a97) (c_init l Z a0 hw n0 a97 _ _ H97) pd_1 rfl rfl rfl at_31 (pc' := 34) rfl (by decide) (Wn := 1) (Nat.le_of_eq rfl) (by decide) (kc' := 6) (ks' := 16) rfl rfl (by decide) (by decide) ?_
    intro T98 v98 W98 hp98
    obtain ⟨h1_, l1_, rfl, H98⟩ := hp98
    show Goes p e below _ (T98.setTop (mkF m 34 #[.val (.int p0), .val (.long p1), .second, .val (.int p2), .val (.long p3), .second, .val (.long p4), .second, .val (.int (2 : Int32)), .val (.int (0 : Int32)), .val (.ref a95), .unset, .unset, .unset, .unset, .unset, .unset, .unset, .unset, .unset, .unset, .unset, .unset] [.ref a97]))
    refine g_astore W98 at_34 (pc' := 36) rfl rfl (ls' := #[.val (.int p0), .val (.long p1), .second, .val (.int p2), .val (.long p3), .second, .val (.long p4), .second, .val (.int (2 : Int32)), .val (.int (0 : Int32)), .val (.ref a95), .val (.ref a97), .unset, .unset, .unset, .unset, .unset, .unset, .unset, .unset, .unset, .unset, .unset]) rfl ?_
    refine g_aload W98 at_36 (pc' := 38) rfl rfl rfl ?_
    refine g_iload W98 at_38 (pc' := 40) rfl rfl ?_
    refine g_lloadN W98 at_40 (pc' := 41) rfl rfl ?_
    refine g_l2d W98 at_41 (pc' := 42) rfl rfl ?_
    have H99f : Hp Z n0 T98.heap [(l0_, ArC Z .double [.double 0, .double 0, .double 0]), (a97, ObC Z "com/example/narrow_bounds/narrowbounds/PreciseValues" [("com/example/narrow_bounds/narrowbounds/PreciseValues", "highs", "[D", .ref h1_), ("com/example/narrow_bounds/narrowbounds/PreciseValues", "lows", "[D", .ref l1_)]), (h1_, ArC Z .double [.double 0, .double 0, .double 0]), (l1_, ArC Z .double [.double 0, .double 0, .double 0]), (a95, ObC Z "com/example/narrow_bounds/narrowbounds/PreciseValues" [("com/example/narrow_bounds/narrowbounds/PreciseValues", "highs", "[D", .ref h0_), ("com/example/narrow_bounds/narrowbounds/PreciseValues", "lows", "[D", .ref l0_)]), (h0_, ArC Z .double [.double 0, .double 0, .double 0])] := H98.front (i := 5) rfl rfl
    have H100f : Hp Z n0 T98.heap [(h0_, ArC Z .double [.double 0, .double 0, .double 0]), (l0_, ArC Z .double [.double 0, .double 0, .double 0]), (a97, ObC Z "com/example/narrow_bounds/narrowbounds/PreciseValues" [("com/example/narrow_bounds/narrowbounds/PreciseValues", "highs", "[D", .ref h1_), ("com/example/narrow_bounds/narrowbounds/PreciseValues", "lows", "[D", .ref l1_)]), (h1_, ArC Z .double [.double 0, .double 0, .double 0]), (l1_, ArC Z .double [.double 0, .double 0, .double 0]), (a95, ObC Z "com/example/narrow_bounds/narrowbounds/PreciseValues" [("com/example/narrow_bounds/narrowbounds/PreciseValues", "highs", "[D", .ref h0_), ("com/example/narrow_bounds/narrowbounds/PreciseValues", "lows", "[D", .ref l0_)])] := H99f.front (i := 5) rfl rfl
    have H101f : Hp Z n0 T98.heap [(a95, ObC Z "com/example/narrow_bounds/narrowbounds/PreciseValues" [("com/example/narrow_bounds/narrowbounds/PreciseValues", "highs", "[D", .ref h0_), ("com/example/narrow_bounds/narrowbounds/PreciseValues", "lows", "[D", .ref l0_)]), (h0_, ArC Z .double [.double 0, .double 0, .double 0]), (l0_, ArC Z .double [.double 0, .double 0, .double 0]), (a97, ObC Z "com/example/narrow_bounds/narrowbounds/PreciseValues" [("com/example/narrow_bounds/narrowbounds/PreciseValues", "highs", "[D", .ref h1_), ("com/example/narrow_bounds/narrowbounds/PreciseValues", "lows", "[D", .ref l1_)]), (h1_, ArC Z .double [.double 0, .double 0, .double 0]), (l1_, ArC Z .double [.double 0, .double 0, .double 0])] := H100f.front (i := 5) rfl rfl
    refine g_callV W98 (argsL := [.int (2 : Int32), .double (FP.l2d p1)]) (st := []) (wd_15 hw) (wd_16 hw) (wd_18 hw) (wd_17 hw) (wd_3 hw) (wd_19 hw) (by decide) (a := a95) H101f (i := 0) rfl (c_set l Z a0 hw n0 a95 h0_ l0_ [.double 0, .double 0, .double 0] [.double 0, .double 0, .double 0] (2 : Int32) 2 (by decide) (show 2 < 3 by decide) (show 2 < 3 by decide) (FP.l2d p1) _ _ H101f) pd_2 rfl rfl rfl at_42 (pc' := 45) rfl (by decide) (Wn := 0) (Nat.le_of_eq rfl) (by decide) (kc' := 6) (ks' := 16) rfl rfl (by decide) (by decide) ?_
    intro T102 v102 W102 hp102
    obtain ⟨rfl, H102⟩ := hp102
    replace H102 : Hp Z n0 T102.heap [(a95, ObC Z "com/example/narrow_bounds/narrowbounds/PreciseValues" [("com/example/narrow_bounds/narrowbounds/PreciseValues", "highs", "[D", .ref h0_), ("com/example/narrow_bounds/narrowbounds/PreciseValues", "lows", "[D", .ref l0_)]), (h0_, ArC Z .double [.double 0, .double 0, .double (FP.l2d p1)]), (l0_, ArC Z .double [.double 0, .double 0, .double 0]), (a97, ObC Z "com/example/narrow_bounds/narrowbounds/PreciseValues" [("com/example/narrow_bounds/narrowbounds/PreciseValues", "highs", "[D", .ref h1_), ("com/example/narrow_bounds/narrowbounds/PreciseValues", "lows", "[D", .ref l1_)]), (h1_, ArC Z .double [.double 0, .double 0, .double 0]), (l1_, ArC Z .double [.double 0, .double 0, .double 0])] := H102
    show Goes p e below _ (T102.setTop (mkF m 45 #[.val (.int p0), .val (.long p1), .second, .val (.int p2), .val (.long p3), .second, .val (.long p4), .second, .val (.int (2 : Int32)), .val (.int (0 : Int32)), .val (.ref a95), .val (.ref a97), .unset, .unset, .unset, .unset, .unset, .unset, .unset, .unset, .unset, .unset, .unset] []))
    refine g_aload W102 at_45 (pc' := 47) rfl rfl rfl ?_
    refine g_iload W102 at_47 (pc' := 49) rfl rfl ?_
    refine g_iloadN W102 at_49 (pc' := 50) rfl rfl ?_
    refine g_i2d W102 at_50 (pc' := 51) rfl rfl ?_
    have H103f : Hp Z n0 T102.heap [(l0_, ArC Z .double [.double 0, .double 0, .double 0]), (a95, ObC Z "com/example/narrow_bounds/narrowbounds/PreciseValues" [("com/example/narrow_bounds/narrowbounds/PreciseValues", "highs", "[D", .ref h0_), ("com/example/narrow_bounds/narrowbounds/PreciseValues", "lows", "[D", .ref l0_)]), (h0_, ArC Z .double [.double 0, .double 0, .double (FP.l2d p1)]), (a97, ObC Z "com/example/narrow_bounds/narrowbounds/PreciseValues" [("com/example/narrow_bounds/narrowbounds/PreciseValues", "highs", "[D", .ref h1_), ("com/example/narrow_bounds/narrowbounds/PreciseValues", "lows", "[D", .ref l1_)]), (h1_, ArC Z .double [.double 0, .double 0, .double 0]), (l1_, ArC Z .double [.double 0, .double 0, .double 0])] := H102.front (i := 2) rfl rfl
    have H104f : Hp Z n0 T102.heap [(h0_, ArC Z .double [.double 0, .double 0, .double (FP.l2d p1)]), (l0_, ArC Z .double [.double 0, .double 0, .double 0]), (a95, ObC Z "com/example/narrow_bounds/narrowbounds/PreciseValues" [("com/example/narrow_bounds/narrowbounds/PreciseValues", "highs", "[D", .ref h0_), ("com/example/narrow_bounds/narrowbounds/PreciseValues", "lows", "[D", .ref l0_)]), (a97, ObC Z "com/example/narrow_bounds/narrowbounds/PreciseValues" [("com/example/narrow_bounds/narrowbounds/PreciseValues", "highs", "[D", .ref h1_), ("com/example/narrow_bounds/narrowbounds/PreciseValues", "lows", "[D", .ref l1_)]), (h1_, ArC Z .double [.double 0, .double 0, .double 0]), (l1_, ArC Z .double [.double 0, .double 0, .double 0])] := H103f.front (i := 2) rfl rfl
    have H105f : Hp Z n0 T102.heap [(a95, ObC Z "com/example/narrow_bounds/narrowbounds/PreciseValues" [("com/example/narrow_bounds/narrowbounds/PreciseValues", "highs", "[D", .ref h0_), ("com/example/narrow_bounds/narrowbounds/PreciseValues", "lows", "[D", .ref l0_)]), (h0_, ArC Z .double [.double 0, .double 0, .double (FP.l2d p1)]), (l0_, ArC Z .double [.double 0, .double 0, .double 0]), (a97, ObC Z "com/example/narrow_bounds/narrowbounds/PreciseValues" [("com/example/narrow_bounds/narrowbounds/PreciseValues", "highs", "[D", .ref h1_), ("com/example/narrow_bounds/narrowbounds/PreciseValues", "lows", "[D", .ref l1_)]), (h1_, ArC Z .double [.double 0, .double 0, .double 0]), (l1_, ArC Z .double [.double 0, .double 0, .double 0])] := H104f.front (i := 2) rfl rfl
    refine g_callV W102 (argsL := [.int (2 : Int32), .double (FP.i2d p2)]) (st := []) (wd_20 hw) (wd_21 hw) (wd_23 hw) (wd_22 hw) (wd_3 hw) (wd_24 hw) (by decide) (a := a95) H105f (i := 0) rfl (c_add l Z a0 hw n0 a95 h0_ l0_ [.double 0, .double 0, .double (FP.l2d p1)] [.double 0, .double 0, .double 0] (2 : Int32) 2 (by decide) (FP.l2d p1) 0 rfl rfl (FP.i2d p2) ((l2d_mag p1).mono (by decide)) (own_mag0 (by decide)) ((i2d_mag p2).mono (by decide)) _ _ H105f) pd_2 rfl rfl rfl at_51 (pc' := 54) rfl (by decide) (Wn := 0) (Nat.le_of_eq rfl) (by decide) (kc' := 6) (ks' := 16) rfl rfl (by decide) (by decide) ?_
    intro T106 v106 W106 hp106
    obtain ⟨rfl, H106⟩ := hp106
    replace H106 : Hp Z n0 T106.heap [(a95, ObC Z "com/example/narrow_bounds/narrowbounds/PreciseValues" [("com/example/narrow_bounds/narrowbounds/PreciseValues", "highs", "[D", .ref h0_), ("com/example/narrow_bounds/narrowbounds/PreciseValues", "lows", "[D", .ref l0_)]), (h0_, ArC Z .double [.double 0, .double 0, .double (own_hi (FP.l2d p1) 0 (FP.i2d p2))]), (l0_, ArC Z .double [.double 0, .double 0, .double (own_lo (FP.l2d p1) 0 (FP.i2d p2))]), (a97, ObC Z "com/example/narrow_bounds/narrowbounds/PreciseValues" [("com/example/narrow_bounds/narrowbounds/PreciseValues", "highs", "[D", .ref h1_), ("com/example/narrow_bounds/narrowbounds/PreciseValues", "lows", "[D", .ref l1_)]), (h1_, ArC Z .double [.double 0, .double 0, .double 0]), (l1_, ArC Z .double [.double 0, .double 0, .double 0])] := H106
    show Goes p e below _ (T106.setTop (mkF m 54 #[.val (.int p0), .val (.long p1), .second, .val (.int p2), .val (.long p3), .second, .val (.long p4), .second, .val (.int (2 : Int32)), .val (.int (0 : Int32)), .val (.ref a95), .val (.ref a97), .unset, .unset, .unset, .unset, .unset, .unset, .unset, .unset, .unset, .unset, .unset] []))
    refine g_aload W106 at_54 (pc' := 56) rfl rfl rfl ?_
    refine g_iload W106 at_56 (pc' := 58) rfl rfl ?_
    refine g_lload W106 at_58 (pc' := 60) rfl rfl ?_
    refine g_l2d W106 at_60 (pc' := 61) rfl rfl ?_
    have H107f : Hp Z n0 T106.heap [(l1_, ArC Z .double [.double 0, .double 0, .double 0]), (a95, ObC Z "com/example/narrow_bounds/narrowbounds/PreciseValues" [("com/example/narrow_bounds/narrowbounds/PreciseValues", "highs", "[D", .ref h0_), ("com/example/narrow_bounds/narrowbounds/PreciseValues", "lows", "[D", .ref l0_)]), (h0_, ArC Z .double [.double 0, .double 0, .double (own_hi (FP.l2d p1) 0 (FP.i2d p2))]), (l0_, ArC Z .double [.double 0, .double 0, .double (own_lo (FP.l2d p1) 0 (FP.i2d p2))]), (a97, ObC Z "com/example/narrow_bounds/narrowbounds/PreciseValues" [("com/example/narrow_bounds/narrowbounds/PreciseValues", "highs", "[D", .ref h1_), ("com/example/narrow_bounds/narrowbounds/PreciseValues", "lows", "[D", .ref l1_)]), (h1_, ArC Z .double [.double 0, .double 0, .double 0])] := H106.front (i := 5) rfl rfl
    have H108f : Hp Z n0 T106.heap [(h1_, ArC Z .double [.double 0, .double 0, .double 0]), (l1_, ArC Z .double [.double 0, .double 0, .double 0]), (a95, ObC Z "com/example/narrow_bounds/narrowbounds/PreciseValues" [("com/example/narrow_bounds/narrowbounds/PreciseValues", "highs", "[D", .ref h0_), ("com/example/narrow_bounds/narrowbounds/PreciseValues", "lows", "[D", .ref l0_)]), (h0_, ArC Z .double [.double 0, .double 0, .double (own_hi (FP.l2d p1) 0 (FP.i2d p2))]), (l0_, ArC Z .double [.double 0, .double 0, .double (own_lo (FP.l2d p1) 0 (FP.i2d p2))]), (a97, ObC Z "com/example/narrow_bounds/narrowbounds/PreciseValues" [("com/example/narrow_bounds/narrowbounds/PreciseValues", "highs", "[D", .ref h1_), ("com/example/narrow_bounds/narrowbounds/PreciseValues", "lows", "[D", .ref l1_)])] := H107f.front (i := 5) rfl rfl
    have H109f : Hp Z n0 T106.heap [(a97, ObC Z "com/example/narrow_bounds/narrowbounds/PreciseValues" [("com/example/narrow_bounds/narrowbounds/PreciseValues", "highs", "[D", .ref h1_), ("com/example/narrow_bounds/narrowbounds/PreciseValues", "lows", "[D", .ref l1_)]), (h1_, ArC Z .double [.double 0, .double 0, .double 0]), (l1_, ArC Z .double [.double 0, .double 0, .double 0]), (a95, ObC Z "com/example/narrow_bounds/narrowbounds/PreciseValues" [("com/example/narrow_bounds/narrowbounds/PreciseValues", "highs", "[D", .ref h0_), ("com/example/narrow_bounds/narrowbounds/PreciseValues", "lows", "[D", .ref l0_)]), (h0_, ArC Z .double [.double 0, .double 0, .double (own_hi (FP.l2d p1) 0 (FP.i2d p2))]), (l0_, ArC Z .double [.double 0, .double 0, .double (own_lo (FP.l2d p1) 0 (FP.i2d p2))])] := H108f.front (i := 5) rfl rfl
    refine g_callV W106 (argsL := [.int (2 : Int32), .double (FP.l2d p3)]) (st := []) (wd_15 hw) (wd_16 hw) (wd_18 hw) (wd_17 hw) (wd_3 hw) (wd_19 hw) (by decide) (a := a97) H109f (i := 0) rfl (c_set l Z a0 hw n0 a97 h1_ l1_ [.double 0, .double 0, .double 0] [.double 0, .double 0, .double 0] (2 : Int32) 2 (by decide) (show 2 < 3 by decide) (show 2 < 3 by decide) (FP.l2d p3) _ _ H109f) pd_2 rfl rfl rfl at_61 (pc' := 64) rfl (by decide) (Wn := 0) (Nat.le_of_eq rfl) (by decide) (kc' := 6) (ks' := 16) rfl rfl (by decide) (by decide) ?_
    intro T110 v110 W110 hp110
    obtain ⟨rfl, H110⟩ := hp110
    replace H110 : Hp Z n0 T110.heap [(a97, ObC Z "com/example/narrow_bounds/narrowbounds/PreciseValues" [("com/example/narrow_bounds/narrowbounds/PreciseValues", "highs", "[D", .ref h1_), ("com/example/narrow_bounds/narrowbounds/PreciseValues", "lows", "[D", .ref l1_)]), (h1_, ArC Z .double [.double 0, .double 0, .double (FP.l2d p3)]), (l1_, ArC Z .double [.double 0, .double 0, .double 0]), (a95, ObC Z "com/example/narrow_bounds/narrowbounds/PreciseValues" [("com/example/narrow_bounds/narrowbounds/PreciseValues", "highs", "[D", .ref h0_), ("com/example/narrow_bounds/narrowbounds/PreciseValues", "lows", "[D", .ref l0_)]), (h0_, ArC Z .double [.double 0, .double 0, .double (own_hi (FP.l2d p1) 0 (FP.i2d p2))]), (l0_, ArC Z .double [.double 0, .double 0, .double (own_lo (FP.l2d p1) 0 (FP.i2d p2))])] := H110
    show Goes p e below _ (T110.setTop (mkF m 64 #[.val (.int p0), .val (.long p1), .second, .val (.int p2), .val (.long p3), .second, .val (.long p4), .second, .val (.int (2 : Int32)), .val (.int (0 : Int32)), .val (.ref a95), .val (.ref a97), .unset, .unset, .unset, .unset, .unset, .unset, .unset, .unset, .unset, .unset, .unset] []))
    refine g_aload W110 at_64 (pc' := 66) rfl rfl rfl ?_
    refine g_iload W110 at_66 (pc' := 68) rfl rfl ?_
    refine g_lload W110 at_68 (pc' := 70) rfl rfl ?_
    refine g_l2d W110 at_70 (pc' := 71) rfl rfl ?_
    have H111f : Hp Z n0 T110.heap [(l1_, ArC Z .double [.double 0, .double 0, .double 0]), (a97, ObC Z "com/example/narrow_bounds/narrowbounds/PreciseValues" [("com/example/narrow_bounds/narrowbounds/PreciseValues", "highs", "[D", .ref h1_), ("com/example/narrow_bounds/narrowbounds/PreciseValues", "lows", "[D", .ref l1_)]), (h1_, ArC Z .double [.double 0, .double 0, .double (FP.l2d p3)]), (a95, ObC Z "com/example/narrow_bounds/narrowbounds/PreciseValues" [("com/example/narrow_bounds/narrowbounds/PreciseValues", "highs", "[D", .ref h0_), ("com/example/narrow_bounds/narrowbounds/PreciseValues", "lows", "[D", .ref l0_)]), (h0_, ArC Z .double [.double 0, .double 0, .double (own_hi (FP.l2d p1) 0 (FP.i2d p2))]), (l0_, ArC Z .double [.double 0, .double 0, .double (own_lo (FP.l2d p1) 0 (FP.i2d p2))])] := H110.front (i := 2) rfl rfl
    have H112f : Hp Z n0 T110.heap [(h1_, ArC Z .double [.double 0, .double 0, .double (FP.l2d p3)]), (l1_, ArC Z .double [.double 0, .double 0, .double 0]), (a97, ObC Z "com/example/narrow_bounds/narrowbounds/PreciseValues" [("com/example/narrow_bounds/narrowbounds/PreciseValues", "highs", "[D", .ref h1_), ("com/example/narrow_bounds/narrowbounds/PreciseValues", "lows", "[D", .ref l1_)]), (a95, ObC Z "com/example/narrow_bounds/narrowbounds/PreciseValues" [("com/example/narrow_bounds/narrowbounds/PreciseValues", "highs", "[D", .ref h0_), ("com/example/narrow_bounds/narrowbounds/PreciseValues", "lows", "[D", .ref l0_)]), (h0_, ArC Z .double [.double 0, .double 0, .double (own_hi (FP.l2d p1) 0 (FP.i2d p2))]), (l0_, ArC Z .double [.double 0, .double 0, .double (own_lo (FP.l2d p1) 0 (FP.i2d p2))])] := H111f.front (i := 2) rfl rfl
    have H113f : Hp Z n0 T110.heap [(a97, ObC Z "com/example/narrow_bounds/narrowbounds/PreciseValues" [("com/example/narrow_bounds/narrowbounds/PreciseValues", "highs", "[D", .ref h1_), ("com/example/narrow_bounds/narrowbounds/PreciseValues", "lows", "[D", .ref l1_)]), (h1_, ArC Z .double [.double 0, .double 0, .double (FP.l2d p3)]), (l1_, ArC Z .double [.double 0, .double 0, .double 0]), (a95, ObC Z "com/example/narrow_bounds/narrowbounds/PreciseValues" [("com/example/narrow_bounds/narrowbounds/PreciseValues", "highs", "[D", .ref h0_), ("com/example/narrow_bounds/narrowbounds/PreciseValues", "lows", "[D", .ref l0_)]), (h0_, ArC Z .double [.double 0, .double 0, .double (own_hi (FP.l2d p1) 0 (FP.i2d p2))]), (l0_, ArC Z .double [.double 0, .double 0, .double (own_lo (FP.l2d p1) 0 (FP.i2d p2))])] := H112f.front (i := 2) rfl rfl
    refine g_callV W110 (argsL := [.int (0 : Int32), .double (FP.l2d p4)]) (st := []) (wd_15 hw) (wd_16 hw) (wd_18 hw) (wd_17 hw) (wd_3 hw) (wd_19 hw) (by decide) (a := a97) H113f (i := 0) rfl (c_set l Z a0 hw n0 a97 h1_ l1_ [.double 0, .double 0, .double (FP.l2d p3)] [.double 0, .double 0, .double 0] (0 : Int32) 0 (by decide) (show 0 < 3 by decide) (show 0 < 3 by decide) (FP.l2d p4) _ _ H113f) pd_2 rfl rfl rfl at_71 (pc' := 74) rfl (by decide) (Wn := 0) (Nat.le_of_eq rfl) (by decide) (kc' := 6) (ks' := 16) rfl rfl (by decide) (by decide) ?_
    intro T114 v114 W114 hp114
    obtain ⟨rfl, H114⟩ := hp114
    replace H114 : Hp Z n0 T114.heap [(a97, ObC Z "com/example/narrow_bounds/narrowbounds/PreciseValues" [("com/example/narrow_bounds/narrowbounds/PreciseValues", "highs", "[D", .ref h1_), ("com/example/narrow_bounds/narrowbounds/PreciseValues", "lows", "[D", .ref l1_)]), (h1_, ArC Z .double [.double (FP.l2d p4), .double 0, .double (FP.l2d p3)]), (l1_, ArC Z .double [.double 0, .double 0, .double 0]), (a95, ObC Z "com/example/narrow_bounds/narrowbounds/PreciseValues" [("com/example/narrow_bounds/narrowbounds/PreciseValues", "highs", "[D", .ref h0_), ("com/example/narrow_bounds/narrowbounds/PreciseValues", "lows", "[D", .ref l0_)]), (h0_, ArC Z .double [.double 0, .double 0, .double (own_hi (FP.l2d p1) 0 (FP.i2d p2))]), (l0_, ArC Z .double [.double 0, .double 0, .double (own_lo (FP.l2d p1) 0 (FP.i2d p2))])] := H114
    show Goes p e below _ (T114.setTop (mkF m 74 #[.val (.int p0), .val (.long p1), .second, .val (.int p2), .val (.long p3), .second, .val (.long p4), .second, .val (.int (2 : Int32)), .val (.int (0 : Int32)), .val (.ref a95), .val (.ref a97), .unset, .unset, .unset, .unset, .unset, .unset, .unset, .unset, .unset, .unset, .unset] []))
    refine g_aload W114 at_74 (pc' := 76) rfl rfl rfl ?_
    refine g_iload W114 at_76 (pc' := 78) rfl rfl ?_
    refine g_aload W114 at_78 (pc' := 80) rfl rfl rfl ?_
    have H115f : Hp Z n0 T114.heap [(l0_, ArC Z .double [.double 0, .double 0, .double (own_lo (FP.l2d p1) 0 (FP.i2d p2))]), (a97, ObC Z "com/example/narrow_bounds/narrowbounds/PreciseValues" [("com/example/narrow_bounds/narrowbounds/PreciseValues", "highs", "[D", .ref h1_), ("com/example/narrow_bounds/narrowbounds/PreciseValues", "lows", "[D", .ref l1_)]), (h1_, ArC Z .double [.double (FP.l2d p4), .double 0, .double (FP.l2d p3)]), (l1_, ArC Z .double [.double 0, .double 0, .double 0]), (a95, ObC Z "com/example/narrow_bounds/narrowbounds/PreciseValues" [("com/example/narrow_bounds/narrowbounds/PreciseValues", "highs", "[D", .ref h0_), ("com/example/narrow_bounds/narrowbounds/PreciseValues", "lows", "[D", .ref l0_)]), (h0_, ArC Z .double [.double 0, .double 0, .double (own_hi (FP.l2d p1) 0 (FP.i2d p2))])] := H114.front (i := 5) rfl rfl
    have H116f : Hp Z n0 T114.heap [(h0_, ArC Z .double [.double 0, .double 0, .double (own_hi (FP.l2d p1) 0 (FP.i2d p2))]), (l0_, ArC Z .double [.double 0, .double 0, .double (own_lo (FP.l2d p1) 0 (FP.i2d p2))]), (a97, ObC Z "com/example/narrow_bounds/narrowbounds/PreciseValues" [("com/example/narrow_bounds/narrowbounds/PreciseValues", "highs", "[D", .ref h1_), ("com/example/narrow_bounds/narrowbounds/PreciseValues", "lows", "[D", .ref l1_)]), (h1_, ArC Z .double [.double (FP.l2d p4), .double 0, .double (FP.l2d p3)]), (l1_, ArC Z .double [.double 0, .double 0, .double 0]), (a95, ObC Z "com/example/narrow_bounds/narrowbounds/PreciseValues" [("com/example/narrow_bounds/narrowbounds/PreciseValues", "highs", "[D", .ref h0_), ("com/example/narrow_bounds/narrowbounds/PreciseValues", "lows", "[D", .ref l0_)])] := H115f.front (i := 5) rfl rfl
    have H117f : Hp Z n0 T114.heap [(a95, ObC Z "com/example/narrow_bounds/narrowbounds/PreciseValues" [("com/example/narrow_bounds/narrowbounds/PreciseValues", "highs", "[D", .ref h0_), ("com/example/narrow_bounds/narrowbounds/PreciseValues", "lows", "[D", .ref l0_)]), (h0_, ArC Z .double [.double 0, .double 0, .double (own_hi (FP.l2d p1) 0 (FP.i2d p2))]), (l0_, ArC Z .double [.double 0, .double 0, .double (own_lo (FP.l2d p1) 0 (FP.i2d p2))]), (a97, ObC Z "com/example/narrow_bounds/narrowbounds/PreciseValues" [("com/example/narrow_bounds/narrowbounds/PreciseValues", "highs", "[D", .ref h1_), ("com/example/narrow_bounds/narrowbounds/PreciseValues", "lows", "[D", .ref l1_)]), (h1_, ArC Z .double [.double (FP.l2d p4), .double 0, .double (FP.l2d p3)]), (l1_, ArC Z .double [.double 0, .double 0, .double 0])] := H116f.front (i := 5) rfl rfl
    have H118f : Hp Z n0 T114.heap [(l1_, ArC Z .double [.double 0, .double 0, .double 0]), (a95, ObC Z "com/example/narrow_bounds/narrowbounds/PreciseValues" [("com/example/narrow_bounds/narrowbounds/PreciseValues", "highs", "[D", .ref h0_), ("com/example/narrow_bounds/narrowbounds/PreciseValues", "lows", "[D", .ref l0_)]), (h0_, ArC Z .double [.double 0, .double 0, .double (own_hi (FP.l2d p1) 0 (FP.i2d p2))]), (l0_, ArC Z .double [.double 0, .double 0, .double (own_lo (FP.l2d p1) 0 (FP.i2d p2))]), (a97, ObC Z "com/example/narrow_bounds/narrowbounds/PreciseValues" [("com/example/narrow_bounds/narrowbounds/PreciseValues", "highs", "[D", .ref h1_), ("com/example/narrow_bounds/narrowbounds/PreciseValues", "lows", "[D", .ref l1_)]), (h1_, ArC Z .double [.double (FP.l2d p4), .double 0, .double (FP.l2d p3)])] := H117f.front (i := 5) rfl rfl
    have H119f : Hp Z n0 T114.heap [(h1_, ArC Z .double [.double (FP.l2d p4), .double 0, .double (FP.l2d p3)]), (l1_, ArC Z .double [.double 0, .double 0, .double 0]), (a95, ObC Z "com/example/narrow_bounds/narrowbounds/PreciseValues" [("com/example/narrow_bounds/narrowbounds/PreciseValues", "highs", "[D", .ref h0_), ("com/example/narrow_bounds/narrowbounds/PreciseValues", "lows", "[D", .ref l0_)]), (h0_, ArC Z .double [.double 0, .double 0, .double (own_hi (FP.l2d p1) 0 (FP.i2d p2))]), (l0_, ArC Z .double [.double 0, .double 0, .double (own_lo (FP.l2d p1) 0 (FP.i2d p2))]), (a97, ObC Z "com/example/narrow_bounds/narrowbounds/PreciseValues" [("com/example/narrow_bounds/narrowbounds/PreciseValues", "highs", "[D", .ref h1_), ("com/example/narrow_bounds/narrowbounds/PreciseValues", "lows", "[D", .ref l1_)])] := H118f.front (i := 5) rfl rfl
    have H120f : Hp Z n0 T114.heap [(a97, ObC Z "com/example/narrow_bounds/narrowbounds/PreciseValues" [("com/example/narrow_bounds/narrowbounds/PreciseValues", "highs", "[D", .ref h1_), ("com/example/narrow_bounds/narrowbounds/PreciseValues", "lows", "[D", .ref l1_)]), (h1_, ArC Z .double [.double (FP.l2d p4), .double 0, .double (FP.l2d p3)]), (l1_, ArC Z .double [.double 0, .double 0, .double 0]), (a95, ObC Z "com/example/narrow_bounds/narrowbounds/PreciseValues" [("com/example/narrow_bounds/narrowbounds/PreciseValues", "highs", "[D", .ref h0_), ("com/example/narrow_bounds/narrowbounds/PreciseValues", "lows", "[D", .ref l0_)]), (h0_, ArC Z .double [.double 0, .double 0, .double (own_hi (FP.l2d p1) 0 (FP.i2d p2))]), (l0_, ArC Z .double [.double 0, .double 0, .double (own_lo (FP.l2d p1) 0 (FP.i2d p2))])] := H119f.front (i := 5) rfl rfl
    refine g_callV W114 (argsL := [.int (2 : Int32), .ref a95]) (st := []) (wd_28 hw) (wd_29 hw) (wd_31 hw) (wd_30 hw) (wd_3 hw) (wd_32 hw) (by decide) (a := a97) H120f (i := 0) rfl (c_copy l Z a0 hw n0 a97 h1_ l1_ a95 h0_ l0_ [.double (FP.l2d p4), .double 0, .double (FP.l2d p3)] [.double 0, .double 0, .double 0] [.double 0, .double 0, .double (own_hi (FP.l2d p1) 0 (FP.i2d p2))] [.double 0, .double 0, .double (own_lo (FP.l2d p1) 0 (FP.i2d p2))] (2 : Int32) 2 (by decide) (show 2 < 3 by decide) (show 2 < 3 by decide) (own_hi (FP.l2d p1) 0 (FP.i2d p2)) (own_lo (FP.l2d p1) 0 (FP.i2d p2)) rfl rfl _ _ H120f) pd_3 rfl rfl rfl at_80 (pc' := 83) rfl (by decide) (Wn := 0) (Nat.le_of_eq rfl) (by decide) (kc' := 6) (ks' := 16) rfl rfl (by decide) (by decide) ?_
    intro T121 v121 W121 hp121
    obtain ⟨rfl, H121⟩ := hp121
    replace H121 : Hp Z n0 T121.heap [(a97, ObC Z "com/example/narrow_bounds/narrowbounds/PreciseValues" [("com/example/narrow_bounds/narrowbounds/PreciseValues", "highs", "[D", .ref h1_), ("com/example/narrow_bounds/narrowbounds/PreciseValues", "lows", "[D", .ref l1_)]), (h1_, ArC Z .double [.double (FP.l2d p4), .double 0, .double (own_hi (FP.l2d p1) 0 (FP.i2d p2))]), (l1_, ArC Z .double [.double 0, .double 0, .double (own_lo (FP.l2d p1) 0 (FP.i2d p2))]), (a95, ObC Z "com/example/narrow_bounds/narrowbounds/PreciseValues" [("com/example/narrow_bounds/narrowbounds/PreciseValues", "highs", "[D", .ref h0_), ("com/example/narrow_bounds/narrowbounds/PreciseValues", "lows", "[D", .ref l0_)]), (h0_, ArC Z .double [.double 0, .double 0, .double (own_hi (FP.l2d p1) 0 (FP.i2d p2))]), (l0_, ArC Z .double [.double 0, .double 0, .double (own_lo (FP.l2d p1) 0 (FP.i2d p2))])] := H121
    show Goes p e below _ (T121.setTop (mkF m 83 #[.val (.int p0), .val (.long p1), .second, .val (.int p2), .val (.long p3), .second, .val (.long p4), .second, .val (.int (2 : Int32)), .val (.int (0 : Int32)), .val (.ref a95), .val (.ref a97), .unset, .unset, .unset, .unset, .unset, .unset, .unset, .unset, .unset, .unset, .unset] []))
    refine g_aload W121 at_83 (pc' := 85) rfl rfl rfl ?_
    refine g_iload W121 at_85 (pc' := 87) rfl rfl ?_
    have mH : Mag64 1222 (own_hi (FP.l2d p1) 0 (FP.i2d p2)) := (own_hi_mag ((l2d_mag p1).mono (by decide)) (own_mag0 (by decide)) ((i2d_mag p2).mono (by decide))).mono (by decide)
    have mL : Mag64 1222 (own_lo (FP.l2d p1) 0 (FP.i2d p2)) := own_lo_mag ((l2d_mag p1).mono (by decide)) (own_mag0 (by decide)) ((i2d_mag p2).mono (by decide))
    have H122f : Hp Z n0 T121.heap [(l0_, ArC Z .double [.double 0, .double 0, .double (own_lo (FP.l2d p1) 0 (FP.i2d p2))]), (a97, ObC Z "com/example/narrow_bounds/narrowbounds/PreciseValues" [("com/example/narrow_bounds/narrowbounds/PreciseValues", "highs", "[D", .ref h1_), ("com/example/narrow_bounds/narrowbounds/PreciseValues", "lows", "[D", .ref l1_)]), (h1_, ArC Z .double [.double (FP.l2d p4), .double 0, .double (own_hi (FP.l2d p1) 0 (FP.i2d p2))]), (l1_, ArC Z .double [.double 0, .double 0, .double (own_lo (FP.l2d p1) 0 (FP.i2d p2))]), (a95, ObC Z "com/example/narrow_bounds/narrowbounds/PreciseValues" [("com/example/narrow_bounds/narrowbounds/PreciseValues", "highs", "[D", .ref h0_), ("com/example/narrow_bounds/narrowbounds/PreciseValues", "lows", "[D", .ref l0_)]), (h0_, ArC Z .double [.double 0, .double 0, .double (own_hi (FP.l2d p1) 0 (FP.i2d p2))])] := H121.front (i := 5) rfl rfl
    have H123f : Hp Z n0 T121.heap [(h0_, ArC Z .double [.double 0, .double 0, .double (own_hi (FP.l2d p1) 0 (FP.i2d p2))]), (l0_, ArC Z .double [.double 0, .double 0, .double (own_lo (FP.l2d p1) 0 (FP.i2d p2))]), (a97, ObC Z "com/example/narrow_bounds/narrowbounds/PreciseValues" [("com/example/narrow_bounds/narrowbounds/PreciseValues", "highs", "[D", .ref h1_), ("com/example/narrow_bounds/narrowbounds/PreciseValues", "lows", "[D", .ref l1_)]), (h1_, ArC Z .double [.double (FP.l2d p4), .double 0, .double (own_hi (FP.l2d p1) 0 (FP.i2d p2))]), (l1_, ArC Z .double [.double 0, .double 0, .double (own_lo (FP.l2d p1) 0 (FP.i2d p2))]), (a95, ObC Z "com/example/narrow_bounds/narrowbounds/PreciseValues" [("com/example/narrow_bounds/narrowbounds/PreciseValues", "highs", "[D", .ref h0_), ("com/example/narrow_bounds/narrowbounds/PreciseValues", "lows", "[D", .ref l0_)])] := H122f.front (i := 5) rfl rfl
    have H124f : Hp Z n0 T121.heap [(a95, ObC Z "com/example/narrow_bounds/narrowbounds/PreciseValues" [("com/example/narrow_bounds/narrowbounds/PreciseValues", "highs", "[D", .ref h0_), ("com/example/narrow_bounds/narrowbounds/PreciseValues", "lows", "[D", .ref l0_)]), (h0_, ArC Z .double [.double 0, .double 0, .double (own_hi (FP.l2d p1) 0 (FP.i2d p2))]), (l0_, ArC Z .double [.double 0, .double 0, .double (own_lo (FP.l2d p1) 0 (FP.i2d p2))]), (a97, ObC Z "com/example/narrow_bounds/narrowbounds/PreciseValues" [("com/example/narrow_bounds/narrowbounds/PreciseValues", "highs", "[D", .ref h1_), ("com/example/narrow_bounds/narrowbounds/PreciseValues", "lows", "[D", .ref l1_)]), (h1_, ArC Z .double [.double (FP.l2d p4), .double 0, .double (own_hi (FP.l2d p1) 0 (FP.i2d p2))]), (l1_, ArC Z .double [.double 0, .double 0, .double (own_lo (FP.l2d p1) 0 (FP.i2d p2))])] := H123f.front (i := 5) rfl rfl
    refine g_callV W121 (argsL := [.int (2 : Int32)]) (st := []) (wd_33 hw) (wd_34 hw) (wd_36 hw) (wd_35 hw) (wd_3 hw) (wd_37 hw) (by decide) (a := a95) H124f (i := 0) rfl (c_near l Z a0 hw n0 a95 h0_ l0_ [.double 0, .double 0, .double (own_hi (FP.l2d p1) 0 (FP.i2d p2))] [.double 0, .double 0, .double (own_lo (FP.l2d p1) 0 (FP.i2d p2))] (2 : Int32) 2 (by decide) (own_hi (FP.l2d p1) 0 (FP.i2d p2)) rfl _ _ H124f) pd_4 rfl rfl rfl at_87 (pc' := 90) rfl (by decide) (Wn := 0) (Nat.le_of_eq rfl) (by decide) (kc' := 6) (ks' := 16) rfl rfl (by decide) (by decide) ?_
    intro T125 v125 W125 hp125
    obtain ⟨rfl, H125⟩ := hp125
    show Goes p e below _ (T125.setTop (mkF m 90 #[.val (.int p0), .val (.long p1), .second, .val (.int p2), .val (.long p3), .second, .val (.long p4), .second, .val (.int (2 : Int32)), .val (.int (0 : Int32)), .val (.ref a95), .val (.ref a97), .unset, .unset, .unset, .unset, .unset, .unset, .unset, .unset, .unset, .unset, .unset] [.double (own_hi (FP.l2d p1) 0 (FP.i2d p2))]))
    refine g_dstore W125 at_90 (pc' := 92) rfl (ls' := #[.val (.int p0), .val (.long p1), .second, .val (.int p2), .val (.long p3), .second, .val (.long p4), .second, .val (.int (2 : Int32)), .val (.int (0 : Int32)), .val (.ref a95), .val (.ref a97), .val (.double (own_hi (FP.l2d p1) 0 (FP.i2d p2))), .second, .unset, .unset, .unset, .unset, .unset, .unset, .unset, .unset, .unset]) rfl ?_
    refine g_aload W125 at_92 (pc' := 94) rfl rfl rfl ?_
    refine g_iload W125 at_94 (pc' := 96) rfl rfl ?_
    refine g_dload W125 at_96 (pc' := 98) rfl rfl ?_
    have H126f : Hp Z n0 T125.heap [(l0_, ArC Z .double [.double 0, .double 0, .double (own_lo (FP.l2d p1) 0 (FP.i2d p2))]), (a95, ObC Z "com/example/narrow_bounds/narrowbounds/PreciseValues" [("com/example/narrow_bounds/narrowbounds/PreciseValues", "highs", "[D", .ref h0_), ("com/example/narrow_bounds/narrowbounds/PreciseValues", "lows", "[D", .ref l0_)]), (h0_, ArC Z .double [.double 0, .double 0, .double (own_hi (FP.l2d p1) 0 (FP.i2d p2))]), (a97, ObC Z "com/example/narrow_bounds/narrowbounds/PreciseValues" [("com/example/narrow_bounds/narrowbounds/PreciseValues", "highs", "[D", .ref h1_), ("com/example/narrow_bounds/narrowbounds/PreciseValues", "lows", "[D", .ref l1_)]), (h1_, ArC Z .double [.double (FP.l2d p4), .double 0, .double (own_hi (FP.l2d p1) 0 (FP.i2d p2))]), (l1_, ArC Z .double [.double 0, .double 0, .double (own_lo (FP.l2d p1) 0 (FP.i2d p2))])] := H125.front (i := 2) rfl rfl
    have H127f : Hp Z n0 T125.heap [(h0_, ArC Z .double [.double 0, .double 0, .double (own_hi (FP.l2d p1) 0 (FP.i2d p2))]), (l0_, ArC Z .double [.double 0, .double 0, .double (own_lo (FP.l2d p1) 0 (FP.i2d p2))]), (a95, ObC Z "com/example/narrow_bounds/narrowbounds/PreciseValues" [("com/example/narrow_bounds/narrowbounds/PreciseValues", "highs", "[D", .ref h0_), ("com/example/narrow_bounds/narrowbounds/PreciseValues", "lows", "[D", .ref l0_)]), (a97, ObC Z "com/example/narrow_bounds/narrowbounds/PreciseValues" [("com/example/narrow_bounds/narrowbounds/PreciseValues", "highs", "[D", .ref h1_), ("com/example/narrow_bounds/narrowbounds/PreciseValues", "lows", "[D", .ref l1_)]), (h1_, ArC Z .double [.double (FP.l2d p4), .double 0, .double (own_hi (FP.l2d p1) 0 (FP.i2d p2))]), (l1_, ArC Z .double [.double 0, .double 0, .double (own_lo (FP.l2d p1) 0 (FP.i2d p2))])] := H126f.front (i := 2) rfl rfl
    have H128f : Hp Z n0 T125.heap [(a95, ObC Z "com/example/narrow_bounds/narrowbounds/PreciseValues" [("com/example/narrow_bounds/narrowbounds/PreciseValues", "highs", "[D", .ref h0_), ("com/example/narrow_bounds/narrowbounds/PreciseValues", "lows", "[D", .ref l0_)]), (h0_, ArC Z .double [.double 0, .double 0, .double (own_hi (FP.l2d p1) 0 (FP.i2d p2))]), (l0_, ArC Z .double [.double 0, .double 0, .double (own_lo (FP.l2d p1) 0 (FP.i2d p2))]), (a97, ObC Z "com/example/narrow_bounds/narrowbounds/PreciseValues" [("com/example/narrow_bounds/narrowbounds/PreciseValues", "highs", "[D", .ref h1_), ("com/example/narrow_bounds/narrowbounds/PreciseValues", "lows", "[D", .ref l1_)]), (h1_, ArC Z .double [.double (FP.l2d p4), .double 0, .double (own_hi (FP.l2d p1) 0 (FP.i2d p2))]), (l1_, ArC Z .double [.double 0, .double 0, .double (own_lo (FP.l2d p1) 0 (FP.i2d p2))])] := H127f.front (i := 2) rfl rfl
    refine g_callV W125 (argsL := [.int (2 : Int32), .double (own_hi (FP.l2d p1) 0 (FP.i2d p2))]) (st := []) (wd_38 hw) (wd_39 hw) (wd_41 hw) (wd_40 hw) (wd_3 hw) (wd_42 hw) (by decide) (a := a95) H128f (i := 0) rfl (c_diff l Z a0 hw n0 a95 h0_ l0_ [.double 0, .double 0, .double (own_hi (FP.l2d p1) 0 (FP.i2d p2))] [.double 0, .double 0, .double (own_lo (FP.l2d p1) 0 (FP.i2d p2))] (2 : Int32) 2 (by decide) (own_hi (FP.l2d p1) 0 (FP.i2d p2)) (own_lo (FP.l2d p1) 0 (FP.i2d p2)) rfl rfl (own_hi (FP.l2d p1) 0 (FP.i2d p2)) mH mL mH _ _ H128f) pd_5 rfl rfl rfl at_98 (pc' := 101) rfl (by decide) (Wn := 0) (Nat.le_of_eq rfl) (by decide) (kc' := 6) (ks' := 16) rfl rfl (by decide) (by decide) ?_
    intro T129 v129 W129 hp129
    obtain ⟨rfl, H129⟩ := hp129
    show Goes p e below _ (T129.setTop (mkF m 101 #[.val (.int p0), .val (.long p1), .second, .val (.int p2), .val (.long p3), .second, .val (.long p4), .second, .val (.int (2 : Int32)), .val (.int (0 : Int32)), .val (.ref a95), .val (.ref a97), .val (.double (own_hi (FP.l2d p1) 0 (FP.i2d p2))), .second, .unset, .unset, .unset, .unset, .unset, .unset, .unset, .unset, .unset] [.double (own_diff (own_hi (FP.l2d p1) 0 (FP.i2d p2)) (own_lo (FP.l2d p1) 0 (FP.i2d p2)) (own_hi (FP.l2d p1) 0 (FP.i2d p2)))]))
    refine g_dstore W129 at_101 (pc' := 103) rfl (ls' := #[.val (.int p0), .val (.long p1), .second, .val (.int p2), .val (.long p3), .second, .val (.long p4), .second, .val (.int (2 : Int32)), .val (.int (0 : Int32)), .val (.ref a95), .val (.ref a97), .val (.double (own_hi (FP.l2d p1) 0 (FP.i2d p2))), .second, .val (.double (own_diff (own_hi (FP.l2d p1) 0 (FP.i2d p2)) (own_lo (FP.l2d p1) 0 (FP.i2d p2)) (own_hi (FP.l2d p1) 0 (FP.i2d p2)))), .second, .unset, .unset, .unset, .unset, .unset, .unset, .unset]) rfl ?_
    refine g_aload W129 at_103 (pc' := 105) rfl rfl rfl ?_
    refine g_iload W129 at_105 (pc' := 107) rfl rfl ?_
    have H130f : Hp Z n0 T129.heap [(l1_, ArC Z .double [.double 0, .double 0, .double (own_lo (FP.l2d p1) 0 (FP.i2d p2))]), (a95, ObC Z "com/example/narrow_bounds/narrowbounds/PreciseValues" [("com/example/narrow_bounds/narrowbounds/PreciseValues", "highs", "[D", .ref h0_), ("com/example/narrow_bounds/narrowbounds/PreciseValues", "lows", "[D", .ref l0_)]), (h0_, ArC Z .double [.double 0, .double 0, .double (own_hi (FP.l2d p1) 0 (FP.i2d p2))]), (l0_, ArC Z .double [.double 0, .double 0, .double (own_lo (FP.l2d p1) 0 (FP.i2d p2))]), (a97, ObC Z "com/example/narrow_bounds/narrowbounds/PreciseValues" [("com/example/narrow_bounds/narrowbounds/PreciseValues", "highs", "[D", .ref h1_), ("com/example/narrow_bounds/narrowbounds/PreciseValues", "lows", "[D", .ref l1_)]), (h1_, ArC Z .double [.double (FP.l2d p4), .double 0, .double (own_hi (FP.l2d p1) 0 (FP.i2d p2))])] := H129.front (i := 5) rfl rfl
    have H131f : Hp Z n0 T129.heap [(h1_, ArC Z .double [.double (FP.l2d p4), .double 0, .double (own_hi (FP.l2d p1) 0 (FP.i2d p2))]), (l1_, ArC Z .double [.double 0, .double 0, .double (own_lo (FP.l2d p1) 0 (FP.i2d p2))]), (a95, ObC Z "com/example/narrow_bounds/narrowbounds/PreciseValues" [("com/example/narrow_bounds/narrowbounds/PreciseValues", "highs", "[D", .ref h0_), ("com/example/narrow_bounds/narrowbounds/PreciseValues", "lows", "[D", .ref l0_)]), (h0_, ArC Z .double [.double 0, .double 0, .double (own_hi (FP.l2d p1) 0 (FP.i2d p2))]), (l0_, ArC Z .double [.double 0, .double 0, .double (own_lo (FP.l2d p1) 0 (FP.i2d p2))]), (a97, ObC Z "com/example/narrow_bounds/narrowbounds/PreciseValues" [("com/example/narrow_bounds/narrowbounds/PreciseValues", "highs", "[D", .ref h1_), ("com/example/narrow_bounds/narrowbounds/PreciseValues", "lows", "[D", .ref l1_)])] := H130f.front (i := 5) rfl rfl
    have H132f : Hp Z n0 T129.heap [(a97, ObC Z "com/example/narrow_bounds/narrowbounds/PreciseValues" [("com/example/narrow_bounds/narrowbounds/PreciseValues", "highs", "[D", .ref h1_), ("com/example/narrow_bounds/narrowbounds/PreciseValues", "lows", "[D", .ref l1_)]), (h1_, ArC Z .double [.double (FP.l2d p4), .double 0, .double (own_hi (FP.l2d p1) 0 (FP.i2d p2))]), (l1_, ArC Z .double [.double 0, .double 0, .double (own_lo (FP.l2d p1) 0 (FP.i2d p2))]), (a95, ObC Z "com/example/narrow_bounds/narrowbounds/PreciseValues" [("com/example/narrow_bounds/narrowbounds/PreciseValues", "highs", "[D", .ref h0_), ("com/example/narrow_bounds/narrowbounds/PreciseValues", "lows", "[D", .ref l0_)]), (h0_, ArC Z .double [.double 0, .double 0, .double (own_hi (FP.l2d p1) 0 (FP.i2d p2))]), (l0_, ArC Z .double [.double 0, .double 0, .double (own_lo (FP.l2d p1) 0 (FP.i2d p2))])] := H131f.front (i := 5) rfl rfl
    refine g_callV W129 (argsL := [.int (2 : Int32)]) (st := []) (wd_33 hw) (wd_34 hw) (wd_36 hw) (wd_35 hw) (wd_3 hw) (wd_37 hw) (by decide) (a := a97) H132f (i := 0) rfl (c_near l Z a0 hw n0 a97 h1_ l1_ [.double (FP.l2d p4), .double 0, .double (own_hi (FP.l2d p1) 0 (FP.i2d p2))] [.double 0, .double 0, .double (own_lo (FP.l2d p1) 0 (FP.i2d p2))] (2 : Int32) 2 (by decide) (own_hi (FP.l2d p1) 0 (FP.i2d p2)) rfl _ _ H132f) pd_4 rfl rfl rfl at_107 (pc' := 110) rfl (by decide) (Wn := 0) (Nat.le_of_eq rfl) (by decide) (kc' := 6) (ks' := 16) rfl rfl (by decide) (by decide) ?_
    intro T133 v133 W133 hp133
    obtain ⟨rfl, H133⟩ := hp133
    show Goes p e below _ (T133.setTop (mkF m 110 #[.val (.int p0), .val (.long p1), .second, .val (.int p2), .val (.long p3), .second, .val (.long p4), .second, .val (.int (2 : Int32)), .val (.int (0 : Int32)), .val (.ref a95), .val (.ref a97), .val (.double (own_hi (FP.l2d p1) 0 (FP.i2d p2))), .second, .val (.double (own_diff (own_hi (FP.l2d p1) 0 (FP.i2d p2)) (own_lo (FP.l2d p1) 0 (FP.i2d p2)) (own_hi (FP.l2d p1) 0 (FP.i2d p2)))), .second, .unset, .unset, .unset, .unset, .unset, .unset, .unset] [.double (own_hi (FP.l2d p1) 0 (FP.i2d p2))]))
    refine g_dstore W133 at_110 (pc' := 112) rfl (ls' := #[.val (.int p0), .val (.long p1), .second, .val (.int p2), .val (.long p3), .second, .val (.long p4), .second, .val (.int (2 : Int32)), .val (.int (0 : Int32)), .val (.ref a95), .val (.ref a97), .val (.double (own_hi (FP.l2d p1) 0 (FP.i2d p2))), .second, .val (.double (own_diff (own_hi (FP.l2d p1) 0 (FP.i2d p2)) (own_lo (FP.l2d p1) 0 (FP.i2d p2)) (own_hi (FP.l2d p1) 0 (FP.i2d p2)))), .second, .val (.double (own_hi (FP.l2d p1) 0 (FP.i2d p2))), .second, .unset, .unset, .unset, .unset, .unset]) rfl ?_
    refine g_aload W133 at_112 (pc' := 114) rfl rfl rfl ?_
    refine g_iload W133 at_114 (pc' := 116) rfl rfl ?_
    refine g_dload W133 at_116 (pc' := 118) rfl rfl ?_
    have H134f : Hp Z n0 T133.heap [(l1_, ArC Z .double [.double 0, .double 0, .double (own_lo (FP.l2d p1) 0 (FP.i2d p2))]), (a97, ObC Z "com/example/narrow_bounds/narrowbounds/PreciseValues" [("com/example/narrow_bounds/narrowbounds/PreciseValues", "highs", "[D", .ref h1_), ("com/example/narrow_bounds/narrowbounds/PreciseValues", "lows", "[D", .ref l1_)]), (h1_, ArC Z .double [.double (FP.l2d p4), .double 0, .double (own_hi (FP.l2d p1) 0 (FP.i2d p2))]), (a95, ObC Z "com/example/narrow_bounds/narrowbounds/PreciseValues" [("com/example/narrow_bounds/narrowbounds/PreciseValues", "highs", "[D", .ref h0_), ("com/example/narrow_bounds/narrowbounds/PreciseValues", "lows", "[D", .ref l0_)]), (h0_, ArC Z .double [.double 0, .double 0, .double (own_hi (FP.l2d p1) 0 (FP.i2d p2))]), (l0_, ArC Z .double [.double 0, .double 0, .double (own_lo (FP.l2d p1) 0 (FP.i2d p2))])] := H133.front (i := 2) rfl rfl
    have H135f : Hp Z n0 T133.heap [(h1_, ArC Z .double [.double (FP.l2d p4), .double 0, .double (own_hi (FP.l2d p1) 0 (FP.i2d p2))]), (l1_, ArC Z .double [.double 0, .double 0, .double (own_lo (FP.l2d p1) 0 (FP.i2d p2))]), (a97, ObC Z "com/example/narrow_bounds/narrowbounds/PreciseValues" [("com/example/narrow_bounds/narrowbounds/PreciseValues", "highs", "[D", .ref h1_), ("com/example/narrow_bounds/narrowbounds/PreciseValues", "lows", "[D", .ref l1_)]), (a95, ObC Z "com/example/narrow_bounds/narrowbounds/PreciseValues" [("com/example/narrow_bounds/narrowbounds/PreciseValues", "highs", "[D", .ref h0_), ("com/example/narrow_bounds/narrowbounds/PreciseValues", "lows", "[D", .ref l0_)]), (h0_, ArC Z .double [.double 0, .double 0, .double (own_hi (FP.l2d p1) 0 (FP.i2d p2))]), (l0_, ArC Z .double [.double 0, .double 0, .double (own_lo (FP.l2d p1) 0 (FP.i2d p2))])] := H134f.front (i := 2) rfl rfl
    have H136f : Hp Z n0 T133.heap [(a97, ObC Z "com/example/narrow_bounds/narrowbounds/PreciseValues" [("com/example/narrow_bounds/narrowbounds/PreciseValues", "highs", "[D", .ref h1_), ("com/example/narrow_bounds/narrowbounds/PreciseValues", "lows", "[D", .ref l1_)]), (h1_, ArC Z .double [.double (FP.l2d p4), .double 0, .double (own_hi (FP.l2d p1) 0 (FP.i2d p2))]), (l1_, ArC Z .double [.double 0, .double 0, .double (own_lo (FP.l2d p1) 0 (FP.i2d p2))]), (a95, ObC Z "com/example/narrow_bounds/narrowbounds/PreciseValues" [("com/example/narrow_bounds/narrowbounds/PreciseValues", "highs", "[D", .ref h0_), ("com/example/narrow_bounds/narrowbounds/PreciseValues", "lows", "[D", .ref l0_)]), (h0_, ArC Z .double [.double 0, .double 0, .double (own_hi (FP.l2d p1) 0 (FP.i2d p2))]), (l0_, ArC Z .double [.double 0, .double 0, .double (own_lo (FP.l2d p1) 0 (FP.i2d p2))])] := H135f.front (i := 2) rfl rfl
    refine g_callV W133 (argsL := [.int (2 : Int32), .double (own_hi (FP.l2d p1) 0 (FP.i2d p2))]) (st := []) (wd_38 hw) (wd_39 hw) (wd_41 hw) (wd_40 hw) (wd_3 hw) (wd_42 hw) (by decide) (a := a97) H136f (i := 0) rfl (c_diff l Z a0 hw n0 a97 h1_ l1_ [.double (FP.l2d p4), .double 0, .double (own_hi (FP.l2d p1) 0 (FP.i2d p2))] [.double 0, .double 0, .double (own_lo (FP.l2d p1) 0 (FP.i2d p2))] (2 : Int32) 2 (by decide) (own_hi (FP.l2d p1) 0 (FP.i2d p2)) (own_lo (FP.l2d p1) 0 (FP.i2d p2)) rfl rfl (own_hi (FP.l2d p1) 0 (FP.i2d p2)) mH mL mH _ _ H136f) pd_5 rfl rfl rfl at_118 (pc' := 121) rfl (by decide) (Wn := 0) (Nat.le_of_eq rfl) (by decide) (kc' := 6) (ks' := 16) rfl rfl (by decide) (by decide) ?_
    intro T137 v137 W137 hp137
    obtain ⟨rfl, H137⟩ := hp137
    show Goes p e below _ (T137.setTop (mkF m 121 #[.val (.int p0), .val (.long p1), .second, .val (.int p2), .val (.long p3), .second, .val (.long p4), .second, .val (.int (2 : Int32)), .val (.int (0 : Int32)), .val (.ref a95), .val (.ref a97), .val (.double (own_hi (FP.l2d p1) 0 (FP.i2d p2))), .second, .val (.double (own_diff (own_hi (FP.l2d p1) 0 (FP.i2d p2)) (own_lo (FP.l2d p1) 0 (FP.i2d p2)) (own_hi (FP.l2d p1) 0 (FP.i2d p2)))), .second, .val (.double (own_hi (FP.l2d p1) 0 (FP.i2d p2))), .second, .unset, .unset, .unset, .unset, .unset] [.double (own_diff (own_hi (FP.l2d p1) 0 (FP.i2d p2)) (own_lo (FP.l2d p1) 0 (FP.i2d p2)) (own_hi (FP.l2d p1) 0 (FP.i2d p2)))]))
    refine g_dstore W137 at_121 (pc' := 123) rfl (ls' := #[.val (.int p0), .val (.long p1), .second, .val (.int p2), .val (.long p3), .second, .val (.long p4), .second, .val (.int (2 : Int32)), .val (.int (0 : Int32)), .val (.ref a95), .val (.ref a97), .val (.double (own_hi (FP.l2d p1) 0 (FP.i2d p2))), .second, .val (.double (own_diff (own_hi (FP.l2d p1) 0 (FP.i2d p2)) (own_lo (FP.l2d p1) 0 (FP.i2d p2)) (own_hi (FP.l2d p1) 0 (FP.i2d p2)))), .second, .val (.double (own_hi (FP.l2d p1) 0 (FP.i2d p2))), .second, .val (.double (own_diff (own_hi (FP.l2d p1) 0 (FP.i2d p2)) (own_lo (FP.l2d p1) 0 (FP.i2d p2)) (own_hi (FP.l2d p1) 0 (FP.i2d p2)))), .second, .unset, .unset, .unset]) rfl ?_
    refine g_dload W137 at_123 (pc' := 125) rfl rfl ?_
    refine g_dload W137 at_125 (pc' := 127) rfl rfl ?_
    refine g_dcmp W137 at_127 (pc' := 128) rfl rfl ?_
    rw [show (cmpValue (FP.dcmp (own_hi (FP.l2d p1) 0 (FP.i2d p2)) (own_hi (FP.l2d p1) 0 (FP.i2d p2))) .l) = (0 : Int32) from dcmpV_self (own_nn mH (by decide)) .l]
    refine g_if W137 at_128 (pcy := 135) (by decide) (pc' := 131) rfl (fun (h : ¬ (0 : Int32) = (0 : Int32)) => absurd h (by decide)) (fun _ => ?_)
    refine g_iconst W137 at_131 (pc' := 132) rfl (v := (1 : Int32)) (by decide) ?_
    refine g_goto W137 at_132 (pc' := 136) (by decide) ?_
    refine g_istore W137 at_136 (pc' := 138) rfl (ls' := #[.val (.int p0), .val (.long p1), .second, .val (.int p2), .val (.long p3), .second, .val (.long p4), .second, .val (.int (2 : Int32)), .val (.int (0 : Int32)), .val (.ref a95), .val (.ref a97), .val (.double (own_hi (FP.l2d p1) 0 (FP.i2d p2))), .second, .val (.double (own_diff (own_hi (FP.l2d p1) 0 (FP.i2d p2)) (own_lo (FP.l2d p1) 0 (FP.i2d p2)) (own_hi (FP.l2d p1) 0 (FP.i2d p2)))), .second, .val (.double (own_hi (FP.l2d p1) 0 (FP.i2d p2))), .second, .val (.double (own_diff (own_hi (FP.l2d p1) 0 (FP.i2d p2)) (own_lo (FP.l2d p1) 0 (FP.i2d p2)) (own_hi (FP.l2d p1) 0 (FP.i2d p2)))), .second, .val (.int (1 : Int32)), .unset, .unset]) rfl ?_
    refine g_dload W137 at_138 (pc' := 140) rfl rfl ?_
    refine g_dload W137 at_140 (pc' := 142) rfl rfl ?_
    refine g_dcmp W137 at_142 (pc' := 143) rfl rfl ?_
    rw [show (cmpValue (FP.dcmp (own_diff (own_hi (FP.l2d p1) 0 (FP.i2d p2)) (own_lo (FP.l2d p1) 0 (FP.i2d p2)) (own_hi (FP.l2d p1) 0 (FP.i2d p2))) (own_diff (own_hi (FP.l2d p1) 0 (FP.i2d p2)) (own_lo (FP.l2d p1) 0 (FP.i2d p2)) (own_hi (FP.l2d p1) 0 (FP.i2d p2)))) .l) = (0 : Int32) from dcmpV_self (own_nn (own_d4 mH mL mH) (by decide)) .l]
    refine g_if W137 at_143 (pcy := 150) (by decide) (pc' := 146) rfl (fun (h : ¬ (0 : Int32) = (0 : Int32)) => absurd h (by decide)) (fun _ => ?_)
    refine g_iconst W137 at_146 (pc' := 147) rfl (v := (1 : Int32)) (by decide) ?_
    refine g_goto W137 at_147 (pc' := 151) (by decide) ?_
    refine g_istore W137 at_151 (pc' := 153) rfl (ls' := #[.val (.int p0), .val (.long p1), .second, .val (.int p2), .val (.long p3), .second, .val (.long p4), .second, .val (.int (2 : Int32)), .val (.int (0 : Int32)), .val (.ref a95), .val (.ref a97), .val (.double (own_hi (FP.l2d p1) 0 (FP.i2d p2))), .second, .val (.double (own_diff (own_hi (FP.l2d p1) 0 (FP.i2d p2)) (own_lo (FP.l2d p1) 0 (FP.i2d p2)) (own_hi (FP.l2d p1) 0 (FP.i2d p2)))), .second, .val (.double (own_hi (FP.l2d p1) 0 (FP.i2d p2))), .second, .val (.double (own_diff (own_hi (FP.l2d p1) 0 (FP.i2d p2)) (own_lo (FP.l2d p1) 0 (FP.i2d p2)) (own_hi (FP.l2d p1) 0 (FP.i2d p2)))), .second, .val (.int (1 : Int32)), .val (.int (1 : Int32)), .unset]) rfl ?_
    refine g_aload W137 at_153 (pc' := 155) rfl rfl rfl ?_
    refine g_iload W137 at_155 (pc' := 157) rfl rfl ?_
    have H138f : Hp Z n0 T137.heap [(l1_, ArC Z .double [.double 0, .double 0, .double (own_lo (FP.l2d p1) 0 (FP.i2d p2))]), (a97, ObC Z "com/example/narrow_bounds/narrowbounds/PreciseValues" [("com/example/narrow_bounds/narrowbounds/PreciseValues", "highs", "[D", .ref h1_), ("com/example/narrow_bounds/narrowbounds/PreciseValues", "lows", "[D", .ref l1_)]), (h1_, ArC Z .double [.double (FP.l2d p4), .double 0, .double (own_hi (FP.l2d p1) 0 (FP.i2d p2))]), (a95, ObC Z "com/example/narrow_bounds/narrowbounds/PreciseValues" [("com/example/narrow_bounds/narrowbounds/PreciseValues", "highs", "[D", .ref h0_), ("com/example/narrow_bounds/narrowbounds/PreciseValues", "lows", "[D", .ref l0_)]), (h0_, ArC Z .double [.double 0, .double 0, .double (own_hi (FP.l2d p1) 0 (FP.i2d p2))]), (l0_, ArC Z .double [.double 0, .double 0, .double (own_lo (FP.l2d p1) 0 (FP.i2d p2))])] := H137.front (i := 2) rfl rfl
    have H139f : Hp Z n0 T137.heap [(h1_, ArC Z .double [.double (FP.l2d p4), .double 0, .double (own_hi (FP.l2d p1) 0 (FP.i2d p2))]), (l1_, ArC Z .double [.double 0, .double 0, .double (own_lo (FP.l2d p1) 0 (FP.i2d p2))]), (a97, ObC Z "com/example/narrow_bounds/narrowbounds/PreciseValues" [("com/example/narrow_bounds/narrowbounds/PreciseValues", "highs", "[D", .ref h1_), ("com/example/narrow_bounds/narrowbounds/PreciseValues", "lows", "[D", .ref l1_)]), (a95, ObC Z "com/example/narrow_bounds/narrowbounds/PreciseValues" [("com/example/narrow_bounds/narrowbounds/PreciseValues", "highs", "[D", .ref h0_), ("com/example/narrow_bounds/narrowbounds/PreciseValues", "lows", "[D", .ref l0_)]), (h0_, ArC Z .double [.double 0, .double 0, .double (own_hi (FP.l2d p1) 0 (FP.i2d p2))]), (l0_, ArC Z .double [.double 0, .double 0, .double (own_lo (FP.l2d p1) 0 (FP.i2d p2))])] := H138f.front (i := 2) rfl rfl
    have H140f : Hp Z n0 T137.heap [(a97, ObC Z "com/example/narrow_bounds/narrowbounds/PreciseValues" [("com/example/narrow_bounds/narrowbounds/PreciseValues", "highs", "[D", .ref h1_), ("com/example/narrow_bounds/narrowbounds/PreciseValues", "lows", "[D", .ref l1_)]), (h1_, ArC Z .double [.double (FP.l2d p4), .double 0, .double (own_hi (FP.l2d p1) 0 (FP.i2d p2))]), (l1_, ArC Z .double [.double 0, .double 0, .double (own_lo (FP.l2d p1) 0 (FP.i2d p2))]), (a95, ObC Z "com/example/narrow_bounds/narrowbounds/PreciseValues" [("com/example/narrow_bounds/narrowbounds/PreciseValues", "highs", "[D", .ref h0_), ("com/example/narrow_bounds/narrowbounds/PreciseValues", "lows", "[D", .ref l0_)]), (h0_, ArC Z .double [.double 0, .double 0, .double (own_hi (FP.l2d p1) 0 (FP.i2d p2))]), (l0_, ArC Z .double [.double 0, .double 0, .double (own_lo (FP.l2d p1) 0 (FP.i2d p2))])] := H139f.front (i := 2) rfl rfl
    refine g_callV W137 (argsL := [.int (0 : Int32)]) (st := []) (wd_33 hw) (wd_34 hw) (wd_36 hw) (wd_35 hw) (wd_3 hw) (wd_37 hw) (by decide) (a := a97) H140f (i := 0) rfl (c_near l Z a0 hw n0 a97 h1_ l1_ [.double (FP.l2d p4), .double 0, .double (own_hi (FP.l2d p1) 0 (FP.i2d p2))] [.double 0, .double 0, .double (own_lo (FP.l2d p1) 0 (FP.i2d p2))] (0 : Int32) 0 (by decide) (FP.l2d p4) rfl _ _ H140f) pd_4 rfl rfl rfl at_157 (pc' := 160) rfl (by decide) (Wn := 0) (Nat.le_of_eq rfl) (by decide) (kc' := 6) (ks' := 16) rfl rfl (by decide) (by decide) ?_
    intro T141 v141 W141 hp141
    obtain ⟨rfl, H141⟩ := hp141
    show Goes p e below _ (T141.setTop (mkF m 160 #[.val (.int p0), .val (.long p1), .second, .val (.int p2), .val (.long p3), .second, .val (.long p4), .second, .val (.int (2 : Int32)), .val (.int (0 : Int32)), .val (.ref a95), .val (.ref a97), .val (.double (own_hi (FP.l2d p1) 0 (FP.i2d p2))), .second, .val (.double (own_diff (own_hi (FP.l2d p1) 0 (FP.i2d p2)) (own_lo (FP.l2d p1) 0 (FP.i2d p2)) (own_hi (FP.l2d p1) 0 (FP.i2d p2)))), .second, .val (.double (own_hi (FP.l2d p1) 0 (FP.i2d p2))), .second, .val (.double (own_diff (own_hi (FP.l2d p1) 0 (FP.i2d p2)) (own_lo (FP.l2d p1) 0 (FP.i2d p2)) (own_hi (FP.l2d p1) 0 (FP.i2d p2)))), .second, .val (.int (1 : Int32)), .val (.int (1 : Int32)), .unset] [.double (FP.l2d p4)]))
    refine g_lload W141 at_160 (pc' := 162) rfl rfl ?_
    refine g_l2d W141 at_162 (pc' := 163) rfl rfl ?_
    refine g_dcmp W141 at_163 (pc' := 164) rfl rfl ?_
    rw [show (cmpValue (FP.dcmp (FP.l2d p4) (FP.l2d p4)) .l) = (0 : Int32) from dcmpV_self (l2d_fin p4).noNaN .l]
    refine g_if W141 at_164 (pcy := 171) (by decide) (pc' := 167) rfl (fun (h : ¬ (0 : Int32) = (0 : Int32)) => absurd h (by decide)) (fun _ => ?_)
    refine g_iconst W141 at_167 (pc' := 168) rfl (v := (1 : Int32)) (by decide) ?_
    refine g_goto W141 at_168 (pc' := 172) (by decide) ?_
    refine g_istore W141 at_172 (pc' := 174) rfl (ls' := #[.val (.int p0), .val (.long p1), .second, .val (.int p2), .val (.long p3), .second, .val (.long p4), .second, .val (.int (2 : Int32)), .val (.int (0 : Int32)), .val (.ref a95), .val (.ref a97), .val (.double (own_hi (FP.l2d p1) 0 (FP.i2d p2))), .second, .val (.double (own_diff (own_hi (FP.l2d p1) 0 (FP.i2d p2)) (own_lo (FP.l2d p1) 0 (FP.i2d p2)) (own_hi (FP.l2d p1) 0 (FP.i2d p2)))), .second, .val (.double (own_hi (FP.l2d p1) 0 (FP.i2d p2))), .second, .val (.double (own_diff (own_hi (FP.l2d p1) 0 (FP.i2d p2)) (own_lo (FP.l2d p1) 0 (FP.i2d p2)) (own_hi (FP.l2d p1) 0 (FP.i2d p2)))), .second, .val (.int (1 : Int32)), .val (.int (1 : Int32)), .val (.int (1 : Int32))]) rfl ?_
    refine g_iload W141 at_174 (pc' := 176) rfl rfl ?_
    refine g_if W141 at_176 (pcy := 193) (by decide) (pc' := 179) rfl (fun (h : (1 : Int32) = (0 : Int32)) => absurd h (by decide)) (fun _ => ?_)
    refine g_iload W141 at_179 (pc' := 181) rfl rfl ?_
    refine g_if W141 at_181 (pcy := 193) (by decide) (pc' := 184) rfl (fun (h : (1 : Int32) = (0 : Int32)) => absurd h (by decide)) (fun _ => ?_)
    refine g_iload W141 at_184 (pc' := 186) rfl rfl ?_
    refine g_if W141 at_186 (pcy := 193) (by decide) (pc' := 189) rfl (fun (h : (1 : Int32) = (0 : Int32)) => absurd h (by decide)) (fun _ => ?_)
    refine g_iconst W141 at_189 (pc' := 190) rfl (v := (1 : Int32)) (by decide) ?_
    refine g_goto W141 at_190 (pc' := 194) (by decide) ?_
    exact g_zreturn W141 (by decide) at_194 rfl (by decide) (by decide)
set_option maxRecDepth 65536 in
set_option maxHeartbeats 40000000 in
theorem comes_1 {Post : Tables → Env → Array Value → State → Outcome → State → Prop} (hpost : ∀ tb e args s v u, (limb_1_1.after args s (.returned v) u = true ∧ limb_1_2.after args s (.returned v) u = true ∧ True) → FrameEnd s (.returned v) u (Jvm.fieldLocs frame_1_writes args s ++ Jvm.arrayLocs frame_1_arrays args s ++ Jvm.staticLocs frame_1_statics s) 24 128 → Post tb e args s (.returned v) u) :
    ArmFor flags0 classFile x code maxLocals ret World_1 tables_1 room_1 Calls_1 rest_1 Pre_1 Post := by
  intro l hfl _ _ p e ha hc hk s m args below hf hA hF happ hP
  obtain ⟨hcalls, hrest, hpre⟩ := hP
  obtain ⟨-, -, -, hnamed, -, -, -, hat⟩ := (Spec.applies_iff hf).mp happ
  obtain ⟨hg, hn⟩ := and_e (Cond.before_iff.mp (show (Jvm.Cond.and given_1 narrow_1).before args s = true from hpre))
  obtain ⟨hcount, hg0⟩ := and_e hg
  obtain ⟨ha0, hg1⟩ := and_e hg0
  obtain ⟨ha1, hg2⟩ := and_e hg1
  obtain ⟨ha2, hg3⟩ := and_e hg2
  obtain ⟨ha3, hg4⟩ := and_e hg3
  obtain ⟨w0, w1, w2, w3, w4, rfl⟩ : ∃ w0 w1 w2 w3 w4 : Value, args = #[w0, w1, w2, w3, w4] := by
    have hs : args.size = 5 := by simpa [Cond.value, given_1] using hcount
    obtain ⟨L⟩ := args
    match L, hs with
    | [w0, w1, w2, w3, w4], _ => exact ⟨w0, w1, w2, w3, w4, rfl⟩
  have hw := fun d (hd : d ∈ tables_1) => atoms_spec (ws := Jvm.Cond.code x code maxLocals ret :: tables_1) hat d (List.mem_cons_of_mem _ hd)
  obtain ⟨p0, e0⟩ := is_v ha0
  obtain rfl : w0 = (.int p0) := Option.some.inj e0
  obtain ⟨p1, e1⟩ := isL_v ha1
  obtain rfl : w1 = (.long p1) := Option.some.inj e1
  obtain ⟨p2, e2⟩ := is_v ha2
  obtain rfl : w2 = (.int p2) := Option.some.inj e2
  obtain ⟨p3, e3⟩ := isL_v ha3
  obtain rfl : w3 = (.long p3) := Option.some.inj e3
  obtain ⟨p4, e4⟩ := isL_v hg4
  obtain rfl : w4 = (.long p4) := Option.some.inj e4
  obtain ⟨n, o, h1, h2, h3, _, L, rfl, ⟨N, rfl⟩, hq⟩ := law_con l s _ hw s.heap.size p0 p1 p2 p3 p4 s.heap (Hp.nil Bs.start) p e ha hc hk s m _ below hf ((Spec.applies_iff_loose hf).mp happ).1 ⟨rfl, State.Warmed39.refl s, rfl⟩ trivial
  refine ⟨n, _, h1, h2, h3, hpost _ _ _ _ _ _ ⟨Cond.after_iff.mpr rfl, Cond.after_iff.mpr (eq_i res_at (Term.int_eval (1)) rfl), trivial⟩ ⟨hq.1, hq.2.1, (hq.2.2.sift fun y hy => Or.inr (N y hy)).mono (by decide) (by decide)⟩⟩
theorem main_1_1 : Claimed_1_1 := comes_1 fun _ _ _ _ _ _ h hF => ⟨h.1, hF⟩
theorem main_1_2 : Claimed_1_2 := comes_1 fun _ _ _ _ _ _ h hF => ⟨h.2.1, hF⟩
end Jvm.Pilot.@@N@@
namespace Jvm.Pilot.@@N@@
open Jvm Jvm.ClassFile Sem Op Lib Jvm.Free Jvm.Stand Jvm.Pilot.@@N@@.Jvm.D
/-! MADE BY PROGRAM (witnessworld.py) out of the Statement's table words and the real class files: 11 classes; the members and pool entries that the words name. The judged class is class 1, her method 1. -/
namespace start1
open Jvm.ClassFile
def u (s : String) : CpInfo := .utf8 (stringToUtf16 s)
/-- a pool by its gaps: so many unusable entries, then the entry; so many at the end -/
def gap : Nat → List CpInfo → List CpInfo
  | 0, r => r
  | n + 1, r => .unusable :: gap n r
def poolList (es : List (Nat × CpInfo)) (last : Nat) : List CpInfo := es.foldr (fun e r => gap e.1 (e.2 :: r)) (gap last [])
def pool (es : List (Nat × CpInfo)) (last : Nat) : Array CpInfo := ⟨poolList es last⟩
def fileOf (pool : Array CpInfo) (this : Nat) (attrs : Array Attribute := #[]) (ms : Array MethodInfo := #[]) (fl : Nat := 33) (sup : Nat := 0) (ifs : Array Nat := #[]) (fds : Array FieldInfo := #[]) : ClassFile where
  minorVersion := 0
  majorVersion := 65
  constantPool := pool
  accessFlags := fl
  thisClass := this
  superClass := sup
  interfaces := ifs
  fields := fds
  methods := ms
  attributes := attrs
def plain (name : String) (sup : Option ClassId) : Class where
  name := name
  kind := .ordinary
  loader := none
  accessFlags := 33
  super := sup
  interfaces := #[]
  cf := none
  fields := #[]
  methods := #[]
  instanceTypes := #[]
  staticTypes := #[]
  resolved := #[]
  callSites := []
  init := .initialized
  statics := none
  mirror := none

def pool0 : Array CpInfo := pool [(5, u "<init>"), (0, u "()V"), (1, .class_ 10), (1, u "java/lang/Object")] 113

def k0c0 : Code := { maxStack := 0, maxLocals := 1, code := object_method_1_code, exceptionTable := #[], attributes := #[] }
def k0m0 : Method := { name := "<init>", desc := "()V", sig := { parameters := [], returnType := none }, accessFlags := 1, code := some k0c0 }
/-- java/lang/Object -/
def k0 : Class := { plain "java/lang/Object" none with
  accessFlags := 33
  interfaces := #[]
  cf := some (fileOf pool0 8 #[] #[{ accessFlags := 1, nameIndex := 5, descriptorIndex := 6, attributes := #[] }] 33 0 #[] #[])
  fields := #[]
  methods := #[k0m0]
  instanceTypes := #[]
  staticTypes := #[]
  resolved := Array.replicate 124 none
  statics := none }

def pool1 : Array CpInfo := pool [(2, .class_ 4), (1, u "java/lang/Object"), (0, u "<init>"), (0, u "()V"), (0, .integer 2147483647), (0, .class_ 9), (0, u "com/example/narrow_bounds/narrowbounds/PreciseValues"), (0, .methodref 8 11), (0, .nameAndType 5 12), (0, u "(I)V"), (0, .methodref 8 14), (0, .nameAndType 15 16), (0, u "set"), (0, u "(ID)V"), (0, .methodref 8 18), (0, .nameAndType 19 16), (0, u "add"), (0, .methodref 8 21), (0, .nameAndType 22 23), (0, u "copy"), (0, u "(ILcom/example/narrow_bounds/narrowbounds/PreciseValues;)V"), (0, .methodref 8 25), (0, .nameAndType 26 27), (0, u "nearest"), (0, u "(I)D"), (0, .methodref 8 29), (0, .nameAndType 30 31), (0, u "difference"), (0, u "(ID)D"), (0, .class_ 33), (0, u "com/example/narrow_bounds/narrowbounds/PreciseValuesCopyPinLaw"), (2, u "law"), (0, u "(IJIJJ)Z")] 3

def k1m0 : Method := { name := "<init>", desc := "()V", sig := { parameters := [], returnType := none }, accessFlags := 1, code := none }
def k1c1 : Code := { maxStack := 4, maxLocals := 23, code := code, exceptionTable := #[], attributes := #[] }
def k1m1 : Method := { name := "law", desc := "(IJIJJ)Z", sig := { parameters := [.int, .long, .int, .long, .long], returnType := some .boolean }, accessFlags := 9, code := some k1c1 }
/-- com/example/narrow_bounds/narrowbounds/PreciseValuesCopyPinLaw -/
def k1 : Class := { plain "com/example/narrow_bounds/narrowbounds/PreciseValuesCopyPinLaw" (some 0) with
  accessFlags := 49
  interfaces := #[]
  cf := some (fileOf pool1 32 #[] #[{ accessFlags := 1, nameIndex := 5, descriptorIndex := 6, attributes := #[] }, { accessFlags := 9, nameIndex := 36, descriptorIndex := 37, attributes := #[] }] 49 2 #[] #[])
  fields := #[]
  methods := #[k1m0, k1m1]
  instanceTypes := #[]
  staticTypes := #[]
  resolved := Array.replicate 41 none
  statics := none }

def pool2 : Array CpInfo := pool [(1, .methodref 2 3), (0, .class_ 4), (0, .nameAndType 5 6), (0, u "java/lang/Object"), (0, u "<init>"), (0, u "()V"), (0, .fieldref 8 9), (0, .class_ 10), (0, .nameAndType 11 12), (0, u "com/example/narrow_bounds/narrowbounds/PreciseValues"), (0, u "highs"), (0, u "[D"), (0, .fieldref 8 14), (0, .nameAndType 15 12), (0, u "lows"), (0, .methodref 8 17), (0, .nameAndType 18 19), (0, u "error"), (0, u "(DDD)D"), (20, u "add"), (5, u "(I)V"), (2, u "set"), (0, u "(ID)V"), (0, u "copy"), (0, u "(ILcom/example/narrow_bounds/narrowbounds/PreciseValues;)V"), (0, u "nearest"), (0, u "(I)D"), (4, u "(ID)D"), (2, u "difference")] 5

def k2c0 : Code := { maxStack := 2, maxLocals := 2, code := prog_34_method_1_code, exceptionTable := #[], attributes := #[] }
def k2m0 : Method := { name := "<init>", desc := "(I)V", sig := { parameters := [.int], returnType := none }, accessFlags := 0, code := some k2c0 }
def k2c1 : Code := { maxStack := 4, maxLocals := 4, code := prog_34_method_2_code, exceptionTable := #[], attributes := #[] }
def k2m1 : Method := { name := "set", desc := "(ID)V", sig := { parameters := [.int, .double], returnType := none }, accessFlags := 0, code := some k2c1 }
def k2c2 : Code := { maxStack := 4, maxLocals := 3, code := prog_34_method_3_code, exceptionTable := #[], attributes := #[] }
def k2m2 : Method := { name := "copy", desc := "(ILcom/example/narrow_bounds/narrowbounds/PreciseValues;)V", sig := { parameters := [.int, (.object "com/example/narrow_bounds/narrowbounds/PreciseValues")], returnType := none }, accessFlags := 0, code := some k2c2 }
def k2c3 : Code := { maxStack := 8, maxLocals := 10, code := prog_34_method_4_code, exceptionTable := #[], attributes := #[] }
def k2m3 : Method := { name := "add", desc := "(ID)V", sig := { parameters := [.int, .double], returnType := none }, accessFlags := 0, code := some k2c3 }
def k2c4 : Code := { maxStack := 2, maxLocals := 2, code := prog_34_method_5_code, exceptionTable := #[], attributes := #[] }
def k2m4 : Method := { name := "nearest", desc := "(I)D", sig := { parameters := [.int], returnType := some .double }, accessFlags := 0, code := some k2c4 }
def k2c5 : Code := { maxStack := 8, maxLocals := 6, code := prog_34_method_11_code, exceptionTable := #[], attributes := #[] }
def k2m5 : Method := { name := "difference", desc := "(ID)D", sig := { parameters := [.int, .double], returnType := some .double }, accessFlags := 0, code := some k2c5 }
def k2c6 : Code := { maxStack := 6, maxLocals := 10, code := prog_34_method_15_code, exceptionTable := #[], attributes := #[] }
def k2m6 : Method := { name := "error", desc := "(DDD)D", sig := { parameters := [.double, .double, .double], returnType := some .double }, accessFlags := 10, code := some k2c6 }
/-- com/example/narrow_bounds/narrowbounds/PreciseValues -/
def k2 : Class := { plain "com/example/narrow_bounds/narrowbounds/PreciseValues" (some 0) with
  accessFlags := 48
  interfaces := #[]
  cf := some (fileOf pool2 8 #[] #[{ accessFlags := 0, nameIndex := 5, descriptorIndex := 46, attributes := #[] }, { accessFlags := 0, nameIndex := 49, descriptorIndex := 50, attributes := #[] }, { accessFlags := 0, nameIndex := 51, descriptorIndex := 52, attributes := #[] }, { accessFlags := 0, nameIndex := 40, descriptorIndex := 50, attributes := #[] }, { accessFlags := 0, nameIndex := 53, descriptorIndex := 54, attributes := #[] }, { accessFlags := 0, nameIndex := 62, descriptorIndex := 59, attributes := #[] }, { accessFlags := 10, nameIndex := 18, descriptorIndex := 19, attributes := #[] }] 48 2 #[] #[{ accessFlags := 18, nameIndex := 11, descriptorIndex := 12, attributes := #[] }, { accessFlags := 18, nameIndex := 15, descriptorIndex := 12, attributes := #[] }])
  fields := #[{ name := "highs", type := (.array .double), accessFlags := 18, slot := 0, constantValue := 0 }, { name := "lows", type := (.array .double), accessFlags := 18, slot := 1, constantValue := 0 }]
  methods := #[k2m0, k2m1, k2m2, k2m3, k2m4, k2m5, k2m6]
  instanceTypes := #[(.array .double), (.array .double)]
  staticTypes := #[]
  resolved := Array.replicate 68 none
  statics := none }

def pool3 : Array CpInfo := pool [(1, u "java/lang/Cloneable"), (0, .class_ 1), (0, u "java/lang/Object"), (0, .class_ 3)] 3

/-- java/lang/Cloneable -/
def k3 : Class := { plain "java/lang/Cloneable" (some 0) with
  accessFlags := 1537
  interfaces := #[]
  cf := some (fileOf pool3 2 #[] #[] 1537 4 #[] #[])
  fields := #[]
  methods := #[]
  instanceTypes := #[]
  staticTypes := #[]
  resolved := Array.replicate 8 none
  statics := none }

def pool4 : Array CpInfo := pool [(1, u "java/io/Serializable"), (0, .class_ 1), (0, u "java/lang/Object"), (0, .class_ 3)] 3

/-- java/io/Serializable -/
def k4 : Class := { plain "java/io/Serializable" (some 0) with
  accessFlags := 1537
  interfaces := #[]
  cf := some (fileOf pool4 2 #[] #[] 1537 4 #[] #[])
  fields := #[]
  methods := #[]
  instanceTypes := #[]
  staticTypes := #[]
  resolved := Array.replicate 8 none
  statics := none }

/-- the primitive byte -/
def k5 : Class := { plain "byte" none with kind := .primitive 'B', accessFlags := 0x411 }
/-- [B -/
def k6 : Class := { plain "[B" (some 0) with kind := .array 5 .byte, interfaces := #[3, 4], accessFlags := 1041 }

/-- the primitive double -/
def k7 : Class := { plain "double" none with kind := .primitive 'D', accessFlags := 0x411 }
/-- [D -/
def k8 : Class := { plain "[D" (some 0) with kind := .array 7 .double, interfaces := #[3, 4], accessFlags := 1041 }

/-- the primitive int -/
def k9 : Class := { plain "int" none with kind := .primitive 'I', accessFlags := 0x411 }
/-- [I -/
def k10 : Class := { plain "[I" (some 0) with kind := .array 9 .int, interfaces := #[3, 4], accessFlags := 1041 }

def heap : Heap := #[]
def classes : Array Class := #[k0, k1, k2, k3, k4, k5, k6, k7, k8, k9, k10]
def interned : List (Array UInt16 × Addr) := []
def slotsUsed : Nat := 0
def theMethod : MethodId := ⟨1, 1⟩
def args0 : Array Value := #[.int 1, .long 5, .int 2, .long 3, .long 4]
def aboutOver (below : List Frame) : State where
  vm := { classes := classes, interned := interned.toArray }
  heap := heap
  slotsUsed := slotsUsed
  threads := #[{ frames := .invoking theMethod args0 :: below }]
def below0 : List Frame := [.native { method := ⟨0, 0⟩, args := #[] }]
def about1 : State := aboutOver below0
def p0 : Program := .bare "" "" ""
def e0 : Env := launch0.env 0 0 0
theorem w_frames : about1.frames = Frame.invoking theMethod args0 :: below0 := rfl
set_option maxRecDepth 65536 in
theorem w_args : argsFit about1.vm theMethod args0 = true := by decide +kernel
set_option maxRecDepth 65536 in
theorem w_heap : heapFits about1 = true := by decide +kernel
set_option maxRecDepth 65536 in
theorem w_runnable : about1.curStatus? = some .runnable := by decide +kernel
set_option maxRecDepth 65536 in
theorem w_alone : about1.alone = true := by decide +kernel
set_option maxRecDepth 65536 in
theorem w_named : about1.methodNamed? x = some theMethod := by decide +kernel
set_option maxRecDepth 65536 in
theorem w_hears : about1.hears theMethod below0 = true := by decide +kernel
set_option maxRecDepth 65536 in
theorem w_ripe : about1.ripe theMethod args0 below0 = true := by decide +kernel
theorem w_running : about1.status = .running := rfl
set_option maxRecDepth 65536 in
theorem w_room : about1.hasRoom e0.platform room_1 = true :=
  launch0.hasRoom_least _ room_1 (by decide +kernel) (by decide +kernel) (by decide +kernel) (by decide +kernel) (by decide +kernel) (by decide +kernel)
theorem allAtoms_all (ts : List Jvm.Cond) (a : Array Jvm.Value) (st : Jvm.State) : (allAtoms ts).before a st = ts.all (fun c => c.before a st) := by
  induction ts with
  | nil => rfl
  | cons c t ih =>
    show (Jvm.Cond.and c (allAtoms t)).before a st = _
    rw [Jvm.Cond.before_and, ih, List.all_cons]
def words1 : List Jvm.Cond := Jvm.Cond.code x code maxLocals ret :: tables_1
/-- a 'code' word, met by the world's own term for the bytes: nothing is compared byte by byte -/
theorem code_word {y : MethodName} {bytes : ByteArray} {mx : Nat} {rt : Option FieldType} {a : Array Value} {s : State} {m : MethodId} {meth : Method} {c : Code} (h1 : s.methodNamed? y = some m) (h2 : s.vm.method? m = some meth) (h3 : meth.code = some c) (h4 : c.code = bytes)
    (h5 : (c.maxLocals == mx && c.exceptionTable.isEmpty && decide (c.maxStack ≤ mostOperands) && decide (meth.sig.returnType = rt) && !meth.locks && decide (parseMethodDescriptor y.desc = some meth.sig)) = true) : (Jvm.Cond.code y bytes mx rt).before a s = true := by
  simp only [Bool.and_eq_true, beq_iff_eq, Bool.not_eq_true', decide_eq_true_eq] at h5
  obtain ⟨⟨⟨⟨⟨g1, g2⟩, g3⟩, g4⟩, g5⟩, g6⟩ := h5
  simp [Cond.before, Cond.holds, Cond.value, h1, h2, h3, h4, g1, g2, g3, g4, g5, g6]
def isCode : Jvm.Cond → Bool
  | .code _ _ _ _ => true
  | _ => false
theorem all_split {L : List Jvm.Cond} {P : Jvm.Cond → Bool} (h1 : L.all (fun c => isCode c || P c) = true) (h2 : ∀ c ∈ L.filter isCode, P c = true) : L.all P = true := by
  refine List.all_eq_true.mpr fun c hc => ?_
  have h := List.all_eq_true.mp h1 c hc
  rcases Bool.eq_false_or_eq_true (isCode c) with hi | hi
  · exact h2 c (List.mem_filter.mpr ⟨hc, hi⟩)
  · simpa [hi] using h
set_option maxRecDepth 65536 in
theorem w_c0 : (Jvm.Cond.code x code maxLocals ret).before args0 about1 = true := code_word (m := ⟨1, 1⟩) (meth := k1m1) (c := k1c1) (by decide +kernel) rfl rfl rfl (by decide +kernel)
set_option maxRecDepth 65536 in
theorem w_c1 : (Jvm.Cond.code ({ cls := "com/example/narrow_bounds/narrowbounds/PreciseValues", name := "<init>", desc := "(I)V" } : Jvm.MethodName) prog_34_method_1_code (2 : Nat) (Option.none : Option Jvm.ClassFile.FieldType)).before args0 about1 = true := code_word (m := ⟨2, 0⟩) (meth := k2m0) (c := k2c0) (by decide +kernel) rfl rfl rfl (by decide +kernel)
set_option maxRecDepth 65536 in
theorem w_c2 : (Jvm.Cond.code ({ cls := "java/lang/Object", name := "<init>", desc := "()V" } : Jvm.MethodName) object_method_1_code (1 : Nat) (Option.none : Option Jvm.ClassFile.FieldType)).before args0 about1 = true := code_word (m := ⟨0, 0⟩) (meth := k0m0) (c := k0c0) (by decide +kernel) rfl rfl rfl (by decide +kernel)
set_option maxRecDepth 65536 in
theorem w_c3 : (Jvm.Cond.code ({ cls := "com/example/narrow_bounds/narrowbounds/PreciseValues", name := "set", desc := "(ID)V" } : Jvm.MethodName) prog_34_method_2_code (4 : Nat) (Option.none : Option Jvm.ClassFile.FieldType)).before args0 about1 = true := code_word (m := ⟨2, 1⟩) (meth := k2m1) (c := k2c1) (by decide +kernel) rfl rfl rfl (by decide +kernel)
set_option maxRecDepth 65536 in
theorem w_c4 : (Jvm.Cond.code ({ cls := "com/example/narrow_bounds/narrowbounds/PreciseValues", name := "add", desc := "(ID)V" } : Jvm.MethodName) prog_34_method_4_code (10 : Nat) (Option.none : Option Jvm.ClassFile.FieldType)).before args0 about1 = true := code_word (m := ⟨2, 3⟩) (meth := k2m3) (c := k2c3) (by decide +kernel) rfl rfl rfl (by decide +kernel)
set_option maxRecDepth 65536 in
theorem w_c5 : (Jvm.Cond.code ({ cls := "com/example/narrow_bounds/narrowbounds/PreciseValues", name := "error", desc := "(DDD)D" } : Jvm.MethodName) prog_34_method_15_code (10 : Nat) (Option.some Jvm.ClassFile.FieldType.double)).before args0 about1 = true := code_word (m := ⟨2, 6⟩) (meth := k2m6) (c := k2c6) (by decide +kernel) rfl rfl rfl (by decide +kernel)
set_option maxRecDepth 65536 in
theorem w_c6 : (Jvm.Cond.code ({ cls := "com/example/narrow_bounds/narrowbounds/PreciseValues", name := "copy", desc := "(ILcom/example/narrow_bounds/narrowbounds/PreciseValues;)V" } : Jvm.MethodName) prog_34_method_3_code (3 : Nat) (Option.none : Option Jvm.ClassFile.FieldType)).before args0 about1 = true := code_word (m := ⟨2, 2⟩) (meth := k2m2) (c := k2c2) (by decide +kernel) rfl rfl rfl (by decide +kernel)
set_option maxRecDepth 65536 in
theorem w_c7 : (Jvm.Cond.code ({ cls := "com/example/narrow_bounds/narrowbounds/PreciseValues", name := "nearest", desc := "(I)D" } : Jvm.MethodName) prog_34_method_5_code (2 : Nat) (Option.some Jvm.ClassFile.FieldType.double)).before args0 about1 = true := code_word (m := ⟨2, 4⟩) (meth := k2m4) (c := k2c4) (by decide +kernel) rfl rfl rfl (by decide +kernel)
set_option maxRecDepth 65536 in
theorem w_c8 : (Jvm.Cond.code ({ cls := "com/example/narrow_bounds/narrowbounds/PreciseValues", name := "difference", desc := "(ID)D" } : Jvm.MethodName) prog_34_method_11_code (6 : Nat) (Option.some Jvm.ClassFile.FieldType.double)).before args0 about1 = true := code_word (m := ⟨2, 5⟩) (meth := k2m5) (c := k2c5) (by decide +kernel) rfl rfl rfl (by decide +kernel)
def codes1 : List Jvm.Cond := [Jvm.Cond.code x code maxLocals ret, Jvm.Cond.code ({ cls := "com/example/narrow_bounds/narrowbounds/PreciseValues", name := "<init>", desc := "(I)V" } : Jvm.MethodName) prog_34_method_1_code (2 : Nat) (Option.none : Option Jvm.ClassFile.FieldType), Jvm.Cond.code ({ cls := "java/lang/Object", name := "<init>", desc := "()V" } : Jvm.MethodName) object_method_1_code (1 : Nat) (Option.none : Option Jvm.ClassFile.FieldType), Jvm.Cond.code ({ cls := "com/example/narrow_bounds/narrowbounds/PreciseValues", name := "set", desc := "(ID)V" } : Jvm.MethodName) prog_34_method_2_code (4 : Nat) (Option.none : Option Jvm.ClassFile.FieldType), Jvm.Cond.code ({ cls := "com/example/narrow_bounds/narrowbounds/PreciseValues", name := "add", desc := "(ID)V" } : Jvm.MethodName) prog_34_method_4_code (10 : Nat) (Option.none : Option Jvm.ClassFile.FieldType), Jvm.Cond.code ({ cls := "com/example/narrow_bounds/narrowbounds/PreciseValues", name := "error", desc := "(DDD)D" } : Jvm.MethodName) prog_34_method_15_code (10 : Nat) (Option.some Jvm.ClassFile.FieldType.double), Jvm.Cond.code ({ cls := "com/example/narrow_bounds/narrowbounds/PreciseValues", name := "copy", desc := "(ILcom/example/narrow_bounds/narrowbounds/PreciseValues;)V" } : Jvm.MethodName) prog_34_method_3_code (3 : Nat) (Option.none : Option Jvm.ClassFile.FieldType), Jvm.Cond.code ({ cls := "com/example/narrow_bounds/narrowbounds/PreciseValues", name := "nearest", desc := "(I)D" } : Jvm.MethodName) prog_34_method_5_code (2 : Nat) (Option.some Jvm.ClassFile.FieldType.double), Jvm.Cond.code ({ cls := "com/example/narrow_bounds/narrowbounds/PreciseValues", name := "difference", desc := "(ID)D" } : Jvm.MethodName) prog_34_method_11_code (6 : Nat) (Option.some Jvm.ClassFile.FieldType.double)]
set_option maxRecDepth 65536 in
theorem codes_eq : words1.filter isCode = codes1 := rfl
theorem w_codes : ∀ c ∈ words1.filter isCode, c.before args0 about1 = true := by
  rw [codes_eq]
  intro c hc
  simp only [codes1, List.mem_cons, List.not_mem_nil, or_false] at hc
  rcases hc with rfl | rfl | rfl | rfl | rfl | rfl | rfl | rfl | rfl
  · exact w_c0
  · exact w_c1
  · exact w_c2
  · exact w_c3
  · exact w_c4
  · exact w_c5
  · exact w_c6
  · exact w_c7
  · exact w_c8
set_option maxRecDepth 65536 in
theorem w_t1 : (words1.take 24).all (fun c => isCode c || c.before args0 about1) = true := by decide +kernel
set_option maxRecDepth 65536 in
theorem w_t2 : (words1.drop 24).all (fun c => isCode c || c.before args0 about1) = true := by decide +kernel
theorem w_tables : (allAtoms (Jvm.Cond.code x code maxLocals ret :: tables_1)).before args0 about1 = true := by
  rw [allAtoms_all]
  show words1.all (fun c => c.before args0 about1) = true
  refine all_split ?_ w_codes
  rw [← List.take_append_drop 24 words1, List.all_append, w_t1, w_t2]
  rfl
set_option maxRecDepth 65536 in
theorem w_case : (Jvm.Cond.and given_1 narrow_1).before args0 about1 = true := by decide +kernel
theorem w_applies : (headSpec (Jvm.Cond.code x code maxLocals ret :: tables_1) room_1).applies x e0.platform about1 = true :=
  (Spec.applies_iff w_frames).mpr ⟨w_running, w_runnable, w_alone, w_named, w_hears, w_ripe, w_room, w_tables⟩
theorem atStart : AtStart classFile x code maxLocals ret World_1 tables_1 room_1 Calls_1 rest_1 Pre_1 launch0 p0 e0 about1 theMethod args0 below0 :=
  ⟨lists_1, trivial, launch0.admits_env _ _ _, launch0.least_env, fairChoices_fair.cas, fairChoices_fair.clock, w_frames, w_args, w_heap, w_applies, trivial, trivial, w_case⟩
end start1
theorem witness_1 : WitnessClaimed_1 := ⟨start1.p0, start1.e0, start1.about1, start1.theMethod, start1.args0, start1.below0, start1.atStart⟩
end Jvm.Pilot.@@N@@
