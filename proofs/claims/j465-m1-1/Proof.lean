import JvmDerived
import JvmDerived.Pilot.@@N@@Statement
import JvmDerived.Pilot.@@N@@Code
set_option linter.unusedVariables false
set_option linter.unusedSimpArgs false

namespace Jvm.OwnKit
open Sem ClassFile Op Lib Jvm.Stand Jvm.Free Jvm.LawKit Jvm.RoadKit Jvm.Free.Fl
/-- what is left to show of a run: from U it ends and returns, with E of the value, the end and the places written -/
def Goes (p : Program) (e : Env) (below : List Frame) (E : Option Value → State → List Loc → Prop) (U : State) : Prop :=
  ∃ s₂ v L, Steps p.tables e below U s₂ ∧ s₂.status = .running ∧ Ended s₂ below (.returned v) ∧ E v s₂ L
/-- the common end: nothing below n0 is written, Q holds of the value and the heap, the frame is k cells and j slots -/
def En (s : State) (n0 k j : Nat) (Q : Option Value → Heap → Prop) (v : Option Value) (s₂ : State) (L : List Loc) : Prop := (Fr n0 L ∧ Q v s₂.heap) ∧ FrameEnd s (.returned v) s₂ L k j
/-- where a walk of the body y stands -/
def Wk (Z : State) (y : MethodName) (bytes : ByteArray) (ml : Nat) (ret : Option FieldType) (n0 : Nat) (p : Program) (l : Launch) (e : Env) (R : Room) (s : State) (m : MethodId) (args : Array Value) (below : List Frame) (meth : Method) (c : Code) (T : State) (kc ks : Nat) : Prop :=
  (p.tables.exec = Jvm.exec ∧ Z.Warmed39 s.vm ∧ s.vm.findClass y.cls = some m.cls ∧ c.code = bytes ∧ c.maxLocals = ml ∧ meth.sig.returnType = ret ∧ meth.locks = false ∧ meth.name = y.name) ∧ ∃ locs, Stand p l e R s m args below meth c T locs kc ks ∧ Fr n0 locs
/-- a body's contract: called with the values as over the heap h0 it returns with Post -/
def Con (l : Launch) (Z : State) (n0 : Nat) (y : MethodName) (ws : List Cond) (bytes : ByteArray) (ml : Nat) (ret : Option FieldType) (rm : Room) (as : Array Value) (h0 : Heap) (Post : Option Value → Heap → Prop) : Prop :=
  MetFree l y (head1 (Cond.code y bytes ml ret :: ws) rm) (fun a U => a = as ∧ Z.Warmed39 U.vm ∧ U.heap = h0) (fun _ _ _ _ _ => True) (fun _ U o U' => ∃ v L, o = .returned v ∧ (Fr n0 L ∧ Post v U'.heap) ∧ FrameEnd U o U' L rm.cells rm.slots)
section Laws
variable {Z : State} {y : MethodName} {bytes : ByteArray} {ml : Nat} {ret : Option FieldType} {n0 : Nat} {p : Program} {l : Launch} {e : Env} {R : Room} {s : State} {m : MethodId} {args : Array Value} {below : List Frame} {meth : Method} {c : Code} {T : State} {kc ks k j : Nat} {Q : Option Value → Heap → Prop} {E : Option Value → State → List Loc → Prop} {pc pc' : Nat} {ls : Array Slot} {st : List Value} {a0 : Array Value}
theorem Goes.back {U U' : State} (g : Goes p e below E U') (h : ∀ t, Steps p.tables e below U' t → Steps p.tables e below U t) : Goes p e below E U := by
  obtain ⟨s₂, v, L, h1, h2⟩ := g; exact ⟨s₂, v, L, h _ h1, h2⟩
theorem Goes.mono {U : State} {E' : Option Value → State → List Loc → Prop} (g : Goes p e below E U) (h : ∀ v t L, E v t L → E' v t L) : Goes p e below E' U := by
  obtain ⟨s₂, v, L, h1, h2, h3, h4⟩ := g; exact ⟨s₂, v, L, h1, h2, h3, h _ _ _ h4⟩
theorem Con.mono {ws : List Cond} {rm : Room} {as : Array Value} {h0 : Heap} {Post Post' : Option Value → Heap → Prop} (C : Con l Z n0 y ws bytes ml ret rm as h0 Post) (h : ∀ v h, Post v h → Post' v h) : Con l Z n0 y ws bytes ml ret rm as h0 Post' := by
  intro p e ha hc hk s m args below hf happ hP hK
  obtain ⟨a, b, h1, h2, h3, v, L, h4, ⟨h5, h6⟩, h7⟩ := C p e ha hc hk s m args below hf happ hP hK
  exact ⟨a, b, h1, h2, h3, v, L, h4, ⟨h5, h _ _ h6⟩, h7⟩

theorem Wk.hx (W : Wk Z y bytes ml ret n0 p l e R s m args below meth c T kc ks) : p.tables.exec = Jvm.exec := W.1.1
theorem Wk.hZ (W : Wk Z y bytes ml ret n0 p l e R s m args below meth c T kc ks) : Z.Warmed39 s.vm := W.1.2.1
theorem Wk.hown (W : Wk Z y bytes ml ret n0 p l e R s m args below meth c T kc ks) : s.vm.findClass y.cls = some m.cls := W.1.2.2.1
theorem Wk.hby (W : Wk Z y bytes ml ret n0 p l e R s m args below meth c T kc ks) : c.code = bytes := W.1.2.2.2.1
theorem Wk.hml (W : Wk Z y bytes ml ret n0 p l e R s m args below meth c T kc ks) : c.maxLocals = ml := W.1.2.2.2.2.1
theorem Wk.hret (W : Wk Z y bytes ml ret n0 p l e R s m args below meth c T kc ks) : meth.sig.returnType = ret := W.1.2.2.2.2.2.1
theorem Wk.hlk (W : Wk Z y bytes ml ret n0 p l e R s m args below meth c T kc ks) : meth.locks = false := W.1.2.2.2.2.2.2.1
theorem Wk.hnm (W : Wk Z y bytes ml ret n0 p l e R s m args below meth c T kc ks) : meth.name = y.name := W.1.2.2.2.2.2.2.2
theorem Wk.here (W : Wk Z y bytes ml ret n0 p l e R s m args below meth c T kc ks) : At T m c below := by obtain ⟨_, _, X, _⟩ := W; exact X.here
theorem g_iloadN (W : Wk Z y bytes ml ret n0 p l e R s m args below meth c T kc ks) {i : Fin 4} {v : Int32} (hd : decode bytes pc = .ok (.iload_n i, 1)) (hpc : pc + 1 = pc') (hl : ls[i.val]? = some (.val (.int v))) (K : Goes p e below E (T.setTop (mkF m pc' ls (.int v :: st)))) : Goes p e below E (T.setTop (mkF m pc ls st)) := by
  subst hpc; exact K.back fun _ r => XS.iloadN W.here W.hx rfl (hb W.hby hd) hl r
theorem g_iload (W : Wk Z y bytes ml ret n0 p l e R s m args below meth c T kc ks) {i : Nat} {v : Int32} (hd : decode bytes pc = .ok (.iload i, 2)) (hpc : pc + 2 = pc') (hl : ls[i]? = some (.val (.int v))) (K : Goes p e below E (T.setTop (mkF m pc' ls (.int v :: st)))) : Goes p e below E (T.setTop (mkF m pc ls st)) := by
  subst hpc; exact K.back fun _ r => XS.iload W.here W.hx rfl (hb W.hby hd) hl r
theorem g_lloadN (W : Wk Z y bytes ml ret n0 p l e R s m args below meth c T kc ks) {i : Fin 4} {v : Int64} (hd : decode bytes pc = .ok (.lload_n i, 1)) (hpc : pc + 1 = pc') (hl : ls[i.val]? = some (.val (.long v))) (K : Goes p e below E (T.setTop (mkF m pc' ls (.long v :: st)))) : Goes p e below E (T.setTop (mkF m pc ls st)) := by
  subst hpc; exact K.back fun _ r => XT.lloadN W.here W.hx rfl (hb W.hby hd) hl r
theorem g_lload (W : Wk Z y bytes ml ret n0 p l e R s m args below meth c T kc ks) {i : Nat} {v : Int64} (hd : decode bytes pc = .ok (.lload i, 2)) (hpc : pc + 2 = pc') (hl : ls[i]? = some (.val (.long v))) (K : Goes p e below E (T.setTop (mkF m pc' ls (.long v :: st)))) : Goes p e below E (T.setTop (mkF m pc ls st)) := by
  subst hpc; exact K.back fun _ r => XT.lload W.here W.hx rfl (hb W.hby hd) hl r
theorem g_dloadN (W : Wk Z y bytes ml ret n0 p l e R s m args below meth c T kc ks) {i : Fin 4} {v : UInt64} (hd : decode bytes pc = .ok (.dload_n i, 1)) (hpc : pc + 1 = pc') (hl : ls[i.val]? = some (.val (.double v))) (K : Goes p e below E (T.setTop (mkF m pc' ls (.double v :: st)))) : Goes p e below E (T.setTop (mkF m pc ls st)) := by
  subst hpc; exact K.back fun _ r => XS.dloadN W.here W.hx rfl (hb W.hby hd) hl r
theorem g_dload (W : Wk Z y bytes ml ret n0 p l e R s m args below meth c T kc ks) {i : Nat} {v : UInt64} (hd : decode bytes pc = .ok (.dload i, 2)) (hpc : pc + 2 = pc') (hl : ls[i]? = some (.val (.double v))) (K : Goes p e below E (T.setTop (mkF m pc' ls (.double v :: st)))) : Goes p e below E (T.setTop (mkF m pc ls st)) := by
  subst hpc; exact K.back fun _ r => XS.dload W.here W.hx rfl (hb W.hby hd) hl r
theorem g_floadN (W : Wk Z y bytes ml ret n0 p l e R s m args below meth c T kc ks) {i : Fin 4} {v : UInt32} (hd : decode bytes pc = .ok (.fload_n i, 1)) (hpc : pc + 1 = pc') (hl : ls[i.val]? = some (.val (.float v))) (K : Goes p e below E (T.setTop (mkF m pc' ls (.float v :: st)))) : Goes p e below E (T.setTop (mkF m pc ls st)) := by
  subst hpc; exact K.back fun _ r => XS.floadN W.here W.hx rfl (hb W.hby hd) hl r
theorem g_fload (W : Wk Z y bytes ml ret n0 p l e R s m args below meth c T kc ks) {i : Nat} {v : UInt32} (hd : decode bytes pc = .ok (.fload i, 2)) (hpc : pc + 2 = pc') (hl : ls[i]? = some (.val (.float v))) (K : Goes p e below E (T.setTop (mkF m pc' ls (.float v :: st)))) : Goes p e below E (T.setTop (mkF m pc ls st)) := by
  subst hpc; exact K.back fun _ r => XS.fload W.here W.hx rfl (hb W.hby hd) hl r
theorem g_aloadN (W : Wk Z y bytes ml ret n0 p l e R s m args below meth c T kc ks) {i : Fin 4} {v : Value} (hd : decode bytes pc = .ok (.aload_n i, 1)) (hpc : pc + 1 = pc') (hl : ls[i.val]? = some (.val v)) (hv : v.isRef = true) (K : Goes p e below E (T.setTop (mkF m pc' ls (v :: st)))) : Goes p e below E (T.setTop (mkF m pc ls st)) := by
  subst hpc; exact K.back fun _ r => XS.aloadN W.here W.hx rfl (hb W.hby hd) hl hv r
theorem g_aload (W : Wk Z y bytes ml ret n0 p l e R s m args below meth c T kc ks) {i : Nat} {v : Value} (hd : decode bytes pc = .ok (.aload i, 2)) (hpc : pc + 2 = pc') (hl : ls[i]? = some (.val v)) (hv : v.isRef = true) (K : Goes p e below E (T.setTop (mkF m pc' ls (v :: st)))) : Goes p e below E (T.setTop (mkF m pc ls st)) := by
  subst hpc; exact K.back fun _ r => XS.aload W.here W.hx rfl (hb W.hby hd) hl hv r
theorem g_istoreN (W : Wk Z y bytes ml ret n0 p l e R s m args below meth c T kc ks) {i : Fin 4} {v : Int32} {ls' : Array Slot} (hd : decode bytes pc = .ok (.istore_n i, 1)) (hpc : pc + 1 = pc') (hl : storeLocals ls i.val (.int v) = some ls') (K : Goes p e below E (T.setTop (mkF m pc' ls' st))) : Goes p e below E (T.setTop (mkF m pc ls (.int v :: st))) := by
  subst hpc; exact K.back fun _ r => XS.istoreN W.here W.hx rfl (hb W.hby hd) rfl hl r
theorem g_istore (W : Wk Z y bytes ml ret n0 p l e R s m args below meth c T kc ks) {i : Nat} {v : Int32} {ls' : Array Slot} (hd : decode bytes pc = .ok (.istore i, 2)) (hpc : pc + 2 = pc') (hl : storeLocals ls i (.int v) = some ls') (K : Goes p e below E (T.setTop (mkF m pc' ls' st))) : Goes p e below E (T.setTop (mkF m pc ls (.int v :: st))) := by
  subst hpc; exact K.back fun _ r => XS.istore W.here W.hx rfl (hb W.hby hd) rfl hl r
theorem g_lstoreN (W : Wk Z y bytes ml ret n0 p l e R s m args below meth c T kc ks) {i : Fin 4} {v : Int64} {ls' : Array Slot} (hd : decode bytes pc = .ok (.lstore_n i, 1)) (hpc : pc + 1 = pc') (hl : storeLocals ls i.val (.long v) = some ls') (K : Goes p e below E (T.setTop (mkF m pc' ls' st))) : Goes p e below E (T.setTop (mkF m pc ls (.long v :: st))) := by
  subst hpc; exact K.back fun _ r => XT.lstoreN W.here W.hx rfl (hb W.hby hd) rfl hl r
theorem g_lstore (W : Wk Z y bytes ml ret n0 p l e R s m args below meth c T kc ks) {i : Nat} {v : Int64} {ls' : Array Slot} (hd : decode bytes pc = .ok (.lstore i, 2)) (hpc : pc + 2 = pc') (hl : storeLocals ls i (.long v) = some ls') (K : Goes p e below E (T.setTop (mkF m pc' ls' st))) : Goes p e below E (T.setTop (mkF m pc ls (.long v :: st))) := by
  subst hpc; exact K.back fun _ r => XT.lstore W.here W.hx rfl (hb W.hby hd) rfl hl r
theorem g_dstoreN (W : Wk Z y bytes ml ret n0 p l e R s m args below meth c T kc ks) {i : Fin 4} {v : UInt64} {ls' : Array Slot} (hd : decode bytes pc = .ok (.dstore_n i, 1)) (hpc : pc + 1 = pc') (hl : storeLocals ls i.val (.double v) = some ls') (K : Goes p e below E (T.setTop (mkF m pc' ls' st))) : Goes p e below E (T.setTop (mkF m pc ls (.double v :: st))) := by
  subst hpc; exact K.back fun _ r => XS.dstoreN W.here W.hx rfl (hb W.hby hd) rfl hl r
theorem g_dstore (W : Wk Z y bytes ml ret n0 p l e R s m args below meth c T kc ks) {i : Nat} {v : UInt64} {ls' : Array Slot} (hd : decode bytes pc = .ok (.dstore i, 2)) (hpc : pc + 2 = pc') (hl : storeLocals ls i (.double v) = some ls') (K : Goes p e below E (T.setTop (mkF m pc' ls' st))) : Goes p e below E (T.setTop (mkF m pc ls (.double v :: st))) := by
  subst hpc; exact K.back fun _ r => XS.dstore W.here W.hx rfl (hb W.hby hd) rfl hl r
theorem g_fstoreN (W : Wk Z y bytes ml ret n0 p l e R s m args below meth c T kc ks) {i : Fin 4} {v : UInt32} {ls' : Array Slot} (hd : decode bytes pc = .ok (.fstore_n i, 1)) (hpc : pc + 1 = pc') (hl : storeLocals ls i.val (.float v) = some ls') (K : Goes p e below E (T.setTop (mkF m pc' ls' st))) : Goes p e below E (T.setTop (mkF m pc ls (.float v :: st))) := by
  subst hpc; exact K.back fun _ r => XS.fstoreN W.here W.hx rfl (hb W.hby hd) rfl hl r
theorem g_fstore (W : Wk Z y bytes ml ret n0 p l e R s m args below meth c T kc ks) {i : Nat} {v : UInt32} {ls' : Array Slot} (hd : decode bytes pc = .ok (.fstore i, 2)) (hpc : pc + 2 = pc') (hl : storeLocals ls i (.float v) = some ls') (K : Goes p e below E (T.setTop (mkF m pc' ls' st))) : Goes p e below E (T.setTop (mkF m pc ls (.float v :: st))) := by
  subst hpc; exact K.back fun _ r => XS.fstore W.here W.hx rfl (hb W.hby hd) rfl hl r
theorem g_astoreN (W : Wk Z y bytes ml ret n0 p l e R s m args below meth c T kc ks) {i : Fin 4} {v : Value} {ls' : Array Slot} (hd : decode bytes pc = .ok (.astore_n i, 1)) (hpc : pc + 1 = pc') (hv : v.isRef = true) (hl : storeLocals ls i.val v = some ls') (K : Goes p e below E (T.setTop (mkF m pc' ls' st))) : Goes p e below E (T.setTop (mkF m pc ls (v :: st))) := by
  subst hpc; exact K.back fun _ r => XS.astoreN W.here W.hx rfl (hb W.hby hd) rfl hv hl r
theorem g_astore (W : Wk Z y bytes ml ret n0 p l e R s m args below meth c T kc ks) {i : Nat} {v : Value} {ls' : Array Slot} (hd : decode bytes pc = .ok (.astore i, 2)) (hpc : pc + 2 = pc') (hv : v.isRef = true) (hl : storeLocals ls i v = some ls') (K : Goes p e below E (T.setTop (mkF m pc' ls' st))) : Goes p e below E (T.setTop (mkF m pc ls (v :: st))) := by
  subst hpc; exact K.back fun _ r => XS.astore W.here W.hx rfl (hb W.hby hd) rfl hv hl r
theorem g_iconst (W : Wk Z y bytes ml ret n0 p l e R s m args below meth c T kc ks) {i : Int} {v : Int32} (hd : decode bytes pc = .ok (.iconst i, 1)) (hpc : pc + 1 = pc') (hv : Int32.ofInt i = v) (K : Goes p e below E (T.setTop (mkF m pc' ls (.int v :: st)))) : Goes p e below E (T.setTop (mkF m pc ls st)) := by
  subst hpc; exact K.back fun _ r => XS.iconst W.here W.hx rfl (hb W.hby hd) (by rw [hv]; exact r)
theorem g_bipush (W : Wk Z y bytes ml ret n0 p l e R s m args below meth c T kc ks) {i : Int} {v : Int32} (hd : decode bytes pc = .ok (.bipush i, 2)) (hpc : pc + 2 = pc') (hv : (Int8.ofInt i).toInt32 = v) (K : Goes p e below E (T.setTop (mkF m pc' ls (.int v :: st)))) : Goes p e below E (T.setTop (mkF m pc ls st)) := by
  subst hpc; exact K.back fun _ r => XS.bipush W.here W.hx rfl (hb W.hby hd) (by rw [hv]; exact r)
theorem g_sipush (W : Wk Z y bytes ml ret n0 p l e R s m args below meth c T kc ks) {i : Int} {v : Int32} (hd : decode bytes pc = .ok (.sipush i, 3)) (hpc : pc + 3 = pc') (hv : (Int16.ofInt i).toInt32 = v) (K : Goes p e below E (T.setTop (mkF m pc' ls (.int v :: st)))) : Goes p e below E (T.setTop (mkF m pc ls st)) := by
  subst hpc; exact K.back fun _ r => XS.sipush W.here W.hx rfl (hb W.hby hd) (by rw [hv]; exact r)
theorem g_lconst (W : Wk Z y bytes ml ret n0 p l e R s m args below meth c T kc ks) {i : Fin 2} {v : Int64} (hd : decode bytes pc = .ok (.lconst i, 1)) (hpc : pc + 1 = pc') (hv : Int64.ofNat i = v) (K : Goes p e below E (T.setTop (mkF m pc' ls (.long v :: st)))) : Goes p e below E (T.setTop (mkF m pc ls st)) := by
  subst hpc; exact K.back fun _ r => XT.lconst W.here W.hx rfl (hb W.hby hd) (by rw [hv]; exact r)
theorem g_dconst0 (W : Wk Z y bytes ml ret n0 p l e R s m args below meth c T kc ks)  (hd : decode bytes pc = .ok (.dconst 0, 1)) (hpc : pc + 1 = pc')  (K : Goes p e below E (T.setTop (mkF m pc' ls (.double 0 :: st)))) : Goes p e below E (T.setTop (mkF m pc ls st)) := by
  subst hpc; exact K.back fun _ r => XS.dconst0 W.here W.hx rfl (hb W.hby hd) rfl r
theorem g_dconst1 (W : Wk Z y bytes ml ret n0 p l e R s m args below meth c T kc ks)  (hd : decode bytes pc = .ok (.dconst 1, 1)) (hpc : pc + 1 = pc')  (K : Goes p e below E (T.setTop (mkF m pc' ls (.double 4607182418800017408 :: st)))) : Goes p e below E (T.setTop (mkF m pc ls st)) := by
  subst hpc; exact K.back fun _ r => XS.dconst1 W.here W.hx rfl (hb W.hby hd) rfl r
theorem g_aconst_null (W : Wk Z y bytes ml ret n0 p l e R s m args below meth c T kc ks)  (hd : decode bytes pc = .ok (.aconst_null, 1)) (hpc : pc + 1 = pc')  (K : Goes p e below E (T.setTop (mkF m pc' ls (.null :: st)))) : Goes p e below E (T.setTop (mkF m pc ls st)) := by
  subst hpc; exact K.back fun _ r => XS.aconstNull W.here W.hx rfl (hb W.hby hd) r
theorem g_iadd (W : Wk Z y bytes ml ret n0 p l e R s m args below meth c T kc ks) {x y0 v : Int32} (hd : decode bytes pc = .ok (.iadd, 1)) (hpc : pc + 1 = pc') (hv : x + y0 = v) (K : Goes p e below E (T.setTop (mkF m pc' ls (.int v :: st)))) : Goes p e below E (T.setTop (mkF m pc ls (.int y0 :: .int x :: st))) := by
  subst hpc; exact K.back fun _ r => XS.iadd W.here W.hx rfl (hb W.hby hd) rfl (by rw [hv]; exact r)
theorem g_isub (W : Wk Z y bytes ml ret n0 p l e R s m args below meth c T kc ks) {x y0 v : Int32} (hd : decode bytes pc = .ok (.isub, 1)) (hpc : pc + 1 = pc') (hv : x - y0 = v) (K : Goes p e below E (T.setTop (mkF m pc' ls (.int v :: st)))) : Goes p e below E (T.setTop (mkF m pc ls (.int y0 :: .int x :: st))) := by
  subst hpc; exact K.back fun _ r => XS.isub W.here W.hx rfl (hb W.hby hd) rfl (by rw [hv]; exact r)
theorem g_iand (W : Wk Z y bytes ml ret n0 p l e R s m args below meth c T kc ks) {x y0 v : Int32} (hd : decode bytes pc = .ok (.iand, 1)) (hpc : pc + 1 = pc') (hv : x &&& y0 = v) (K : Goes p e below E (T.setTop (mkF m pc' ls (.int v :: st)))) : Goes p e below E (T.setTop (mkF m pc ls (.int y0 :: .int x :: st))) := by
  subst hpc; exact K.back fun _ r => XS.iand W.here W.hx rfl (hb W.hby hd) rfl (by rw [hv]; exact r)
theorem g_imul (W : Wk Z y bytes ml ret n0 p l e R s m args below meth c T kc ks) {x y0 v : Int32} (hd : decode bytes pc = .ok (.imul, 1)) (hpc : pc + 1 = pc') (hv : x * y0 = v) (K : Goes p e below E (T.setTop (mkF m pc' ls (.int v :: st)))) : Goes p e below E (T.setTop (mkF m pc ls (.int y0 :: .int x :: st))) := by
  subst hpc; exact K.back fun _ r => XS.imul W.here W.hx rfl (hb W.hby hd) rfl (by rw [hv]; exact r)
theorem g_ixor (W : Wk Z y bytes ml ret n0 p l e R s m args below meth c T kc ks) {x y0 v : Int32} (hd : decode bytes pc = .ok (.ixor, 1)) (hpc : pc + 1 = pc') (hv : x ^^^ y0 = v) (K : Goes p e below E (T.setTop (mkF m pc' ls (.int v :: st)))) : Goes p e below E (T.setTop (mkF m pc ls (.int y0 :: .int x :: st))) := by
  subst hpc; exact K.back fun _ r => XT.ixor W.here W.hx rfl (hb W.hby hd) rfl (by rw [hv]; exact r)
theorem g_ior (W : Wk Z y bytes ml ret n0 p l e R s m args below meth c T kc ks) {x y0 v : Int32} (hd : decode bytes pc = .ok (.ior, 1)) (hpc : pc + 1 = pc') (hv : x ||| y0 = v) (K : Goes p e below E (T.setTop (mkF m pc' ls (.int v :: st)))) : Goes p e below E (T.setTop (mkF m pc ls (.int y0 :: .int x :: st))) := by
  subst hpc; exact K.back fun _ r => XT.ior W.here W.hx rfl (hb W.hby hd) rfl (by rw [hv]; exact r)
theorem g_ishl (W : Wk Z y bytes ml ret n0 p l e R s m args below meth c T kc ks) {x y0 v : Int32} (hd : decode bytes pc = .ok (.ishl, 1)) (hpc : pc + 1 = pc') (hv : x <<< (y0 &&& 31) = v) (K : Goes p e below E (T.setTop (mkF m pc' ls (.int v :: st)))) : Goes p e below E (T.setTop (mkF m pc ls (.int y0 :: .int x :: st))) := by
  subst hpc; exact K.back fun _ r => XT.ishl W.here W.hx rfl (hb W.hby hd) rfl (by rw [hv]; exact r)
theorem g_ishr (W : Wk Z y bytes ml ret n0 p l e R s m args below meth c T kc ks) {x y0 v : Int32} (hd : decode bytes pc = .ok (.ishr, 1)) (hpc : pc + 1 = pc') (hv : x >>> (y0 &&& 31) = v) (K : Goes p e below E (T.setTop (mkF m pc' ls (.int v :: st)))) : Goes p e below E (T.setTop (mkF m pc ls (.int y0 :: .int x :: st))) := by
  subst hpc; exact K.back fun _ r => XT.ishr W.here W.hx rfl (hb W.hby hd) rfl (by rw [hv]; exact r)
theorem g_iushr (W : Wk Z y bytes ml ret n0 p l e R s m args below meth c T kc ks) {x y0 v : Int32} (hd : decode bytes pc = .ok (.iushr, 1)) (hpc : pc + 1 = pc') (hv : XT.ushr x y0 = v) (K : Goes p e below E (T.setTop (mkF m pc' ls (.int v :: st)))) : Goes p e below E (T.setTop (mkF m pc ls (.int y0 :: .int x :: st))) := by
  subst hpc; exact K.back fun _ r => XT.iushr W.here W.hx rfl (hb W.hby hd) rfl (by rw [hv]; exact r)
theorem g_ineg (W : Wk Z y bytes ml ret n0 p l e R s m args below meth c T kc ks) {x v : Int32} (hd : decode bytes pc = .ok (.ineg, 1)) (hpc : pc + 1 = pc') (hv : -x = v) (K : Goes p e below E (T.setTop (mkF m pc' ls (.int v :: st)))) : Goes p e below E (T.setTop (mkF m pc ls (.int x :: st))) := by
  subst hpc; exact K.back fun _ r => XS.ineg W.here W.hx rfl (hb W.hby hd) rfl (by rw [hv]; exact r)
theorem g_ladd (W : Wk Z y bytes ml ret n0 p l e R s m args below meth c T kc ks) {x y0 v : Int64} (hd : decode bytes pc = .ok (.ladd, 1)) (hpc : pc + 1 = pc') (hv : x + y0 = v) (K : Goes p e below E (T.setTop (mkF m pc' ls (.long v :: st)))) : Goes p e below E (T.setTop (mkF m pc ls (.long y0 :: .long x :: st))) := by
  subst hpc; exact K.back fun _ r => XT.ladd W.here W.hx rfl (hb W.hby hd) rfl (by rw [hv]; exact r)
theorem g_lsub (W : Wk Z y bytes ml ret n0 p l e R s m args below meth c T kc ks) {x y0 v : Int64} (hd : decode bytes pc = .ok (.lsub, 1)) (hpc : pc + 1 = pc') (hv : x - y0 = v) (K : Goes p e below E (T.setTop (mkF m pc' ls (.long v :: st)))) : Goes p e below E (T.setTop (mkF m pc ls (.long y0 :: .long x :: st))) := by
  subst hpc; exact K.back fun _ r => XT.lsub W.here W.hx rfl (hb W.hby hd) rfl (by rw [hv]; exact r)
theorem g_lmul (W : Wk Z y bytes ml ret n0 p l e R s m args below meth c T kc ks) {x y0 v : Int64} (hd : decode bytes pc = .ok (.lmul, 1)) (hpc : pc + 1 = pc') (hv : x * y0 = v) (K : Goes p e below E (T.setTop (mkF m pc' ls (.long v :: st)))) : Goes p e below E (T.setTop (mkF m pc ls (.long y0 :: .long x :: st))) := by
  subst hpc; exact K.back fun _ r => XT.lmul W.here W.hx rfl (hb W.hby hd) rfl (by rw [hv]; exact r)
theorem g_land (W : Wk Z y bytes ml ret n0 p l e R s m args below meth c T kc ks) {x y0 v : Int64} (hd : decode bytes pc = .ok (.land, 1)) (hpc : pc + 1 = pc') (hv : x &&& y0 = v) (K : Goes p e below E (T.setTop (mkF m pc' ls (.long v :: st)))) : Goes p e below E (T.setTop (mkF m pc ls (.long y0 :: .long x :: st))) := by
  subst hpc; exact K.back fun _ r => XT.land W.here W.hx rfl (hb W.hby hd) rfl (by rw [hv]; exact r)
theorem g_lor (W : Wk Z y bytes ml ret n0 p l e R s m args below meth c T kc ks) {x y0 v : Int64} (hd : decode bytes pc = .ok (.lor, 1)) (hpc : pc + 1 = pc') (hv : x ||| y0 = v) (K : Goes p e below E (T.setTop (mkF m pc' ls (.long v :: st)))) : Goes p e below E (T.setTop (mkF m pc ls (.long y0 :: .long x :: st))) := by
  subst hpc; exact K.back fun _ r => XT.lor W.here W.hx rfl (hb W.hby hd) rfl (by rw [hv]; exact r)
theorem g_lxor (W : Wk Z y bytes ml ret n0 p l e R s m args below meth c T kc ks) {x y0 v : Int64} (hd : decode bytes pc = .ok (.lxor, 1)) (hpc : pc + 1 = pc') (hv : x ^^^ y0 = v) (K : Goes p e below E (T.setTop (mkF m pc' ls (.long v :: st)))) : Goes p e below E (T.setTop (mkF m pc ls (.long y0 :: .long x :: st))) := by
  subst hpc; exact K.back fun _ r => XT.lxor W.here W.hx rfl (hb W.hby hd) rfl (by rw [hv]; exact r)
theorem g_lneg (W : Wk Z y bytes ml ret n0 p l e R s m args below meth c T kc ks) {x v : Int64} (hd : decode bytes pc = .ok (.lneg, 1)) (hpc : pc + 1 = pc') (hv : -x = v) (K : Goes p e below E (T.setTop (mkF m pc' ls (.long v :: st)))) : Goes p e below E (T.setTop (mkF m pc ls (.long x :: st))) := by
  subst hpc; exact K.back fun _ r => XT.lneg W.here W.hx rfl (hb W.hby hd) rfl (by rw [hv]; exact r)
theorem g_lushr (W : Wk Z y bytes ml ret n0 p l e R s m args below meth c T kc ks) {x v : Int64} {y0 : Int32} (hd : decode bytes pc = .ok (.lushr, 1)) (hpc : pc + 1 = pc') (hv : XT.ushrL x y0 = v) (K : Goes p e below E (T.setTop (mkF m pc' ls (.long v :: st)))) : Goes p e below E (T.setTop (mkF m pc ls (.int y0 :: .long x :: st))) := by
  subst hpc; exact K.back fun _ r => XT.lushr W.here W.hx rfl (hb W.hby hd) rfl (by rw [hv]; exact r)
theorem g_lcmp (W : Wk Z y bytes ml ret n0 p l e R s m args below meth c T kc ks) {x y0 : Int64} {v : Int32} (hd : decode bytes pc = .ok (.lcmp, 1)) (hpc : pc + 1 = pc') (hv : XT.cmpL x y0 = v) (K : Goes p e below E (T.setTop (mkF m pc' ls (.int v :: st)))) : Goes p e below E (T.setTop (mkF m pc ls (.long y0 :: .long x :: st))) := by
  subst hpc; exact K.back fun _ r => XT.lcmp W.here W.hx rfl (hb W.hby hd) rfl (by rw [hv]; exact r)
theorem g_i2l (W : Wk Z y bytes ml ret n0 p l e R s m args below meth c T kc ks) {x : Int32} {v : Int64} (hd : decode bytes pc = .ok (.i2l, 1)) (hpc : pc + 1 = pc') (hv : x.toInt64 = v) (K : Goes p e below E (T.setTop (mkF m pc' ls (.long v :: st)))) : Goes p e below E (T.setTop (mkF m pc ls (.int x :: st))) := by
  subst hpc; exact K.back fun _ r => XT.i2l W.here W.hx rfl (hb W.hby hd) rfl (by rw [hv]; exact r)
theorem g_l2i (W : Wk Z y bytes ml ret n0 p l e R s m args below meth c T kc ks) {x : Int64} {v : Int32} (hd : decode bytes pc = .ok (.l2i, 1)) (hpc : pc + 1 = pc') (hv : x.toInt32 = v) (K : Goes p e below E (T.setTop (mkF m pc' ls (.int v :: st)))) : Goes p e below E (T.setTop (mkF m pc ls (.long x :: st))) := by
  subst hpc; exact K.back fun _ r => XT.l2i W.here W.hx rfl (hb W.hby hd) rfl (by rw [hv]; exact r)
theorem g_i2d (W : Wk Z y bytes ml ret n0 p l e R s m args below meth c T kc ks) {x : Int32} {v : UInt64} (hd : decode bytes pc = .ok (.i2d, 1)) (hpc : pc + 1 = pc') (hv : FP.i2d x = v) (K : Goes p e below E (T.setTop (mkF m pc' ls (.double v :: st)))) : Goes p e below E (T.setTop (mkF m pc ls (.int x :: st))) := by
  subst hpc; exact K.back fun _ r => XS.i2dS W.here W.hx rfl (hb W.hby hd) rfl hv r
theorem g_l2d (W : Wk Z y bytes ml ret n0 p l e R s m args below meth c T kc ks) {x : Int64} {v : UInt64} (hd : decode bytes pc = .ok (.l2d, 1)) (hpc : pc + 1 = pc') (hv : FP.l2d x = v) (K : Goes p e below E (T.setTop (mkF m pc' ls (.double v :: st)))) : Goes p e below E (T.setTop (mkF m pc ls (.long x :: st))) := by
  subst hpc; exact K.back fun _ r => XS.l2dS W.here W.hx rfl (hb W.hby hd) rfl hv r
theorem g_dneg (W : Wk Z y bytes ml ret n0 p l e R s m args below meth c T kc ks) {x v : UInt64} (hd : decode bytes pc = .ok (.dneg, 1)) (hpc : pc + 1 = pc') (hv : FP.dneg x = v) (K : Goes p e below E (T.setTop (mkF m pc' ls (.double v :: st)))) : Goes p e below E (T.setTop (mkF m pc ls (.double x :: st))) := by
  subst hpc; exact K.back fun _ r => XS.dnegS W.here W.hx rfl (hb W.hby hd) rfl hv r
theorem g_dcmp (W : Wk Z y bytes ml ret n0 p l e R s m args below meth c T kc ks) {o : CmpOp} {x y0 : UInt64} {v : Int32} (hd : decode bytes pc = .ok (.dcmp o, 1)) (hpc : pc + 1 = pc') (hv : cmpValue (FP.dcmp x y0) o = v) (K : Goes p e below E (T.setTop (mkF m pc' ls (.int v :: st)))) : Goes p e below E (T.setTop (mkF m pc ls (.double y0 :: .double x :: st))) := by
  subst hpc; exact K.back fun _ r => XS.dcmpS W.here W.hx rfl (hb W.hby hd) rfl hv r
theorem g_dadd (W : Wk Z y bytes ml ret n0 p l e R s m args below meth c T kc ks) {x y0 v : UInt64} (hd : decode bytes pc = .ok (.dadd, 1)) (hpc : pc + 1 = pc') (hv : FP.dadd x y0 = v) (hn : NoNaN64 v) (K : Goes p e below E (T.setTop (mkF m pc' ls (.double v :: st)))) : Goes p e below E (T.setTop (mkF m pc ls (.double y0 :: .double x :: st))) := by
  subst hpc; exact K.back fun _ r => XS.daddS W.here W.hx rfl (hb W.hby hd) rfl (by rw [hv]; exact hn) hv r
theorem g_dsub (W : Wk Z y bytes ml ret n0 p l e R s m args below meth c T kc ks) {x y0 v : UInt64} (hd : decode bytes pc = .ok (.dsub, 1)) (hpc : pc + 1 = pc') (hv : FP.dsub x y0 = v) (hn : NoNaN64 v) (K : Goes p e below E (T.setTop (mkF m pc' ls (.double v :: st)))) : Goes p e below E (T.setTop (mkF m pc ls (.double y0 :: .double x :: st))) := by
  subst hpc; exact K.back fun _ r => XS.dsubS W.here W.hx rfl (hb W.hby hd) rfl (by rw [hv]; exact hn) hv r
theorem g_dmul (W : Wk Z y bytes ml ret n0 p l e R s m args below meth c T kc ks) {x y0 v : UInt64} (hd : decode bytes pc = .ok (.dmul, 1)) (hpc : pc + 1 = pc') (hv : FP.dmul x y0 = v) (hn : NoNaN64 v) (K : Goes p e below E (T.setTop (mkF m pc' ls (.double v :: st)))) : Goes p e below E (T.setTop (mkF m pc ls (.double y0 :: .double x :: st))) := by
  subst hpc; exact K.back fun _ r => XS.dmulS W.here W.hx rfl (hb W.hby hd) rfl (by rw [hv]; exact hn) hv r
theorem g_ddiv (W : Wk Z y bytes ml ret n0 p l e R s m args below meth c T kc ks) {x y0 v : UInt64} (hd : decode bytes pc = .ok (.ddiv, 1)) (hpc : pc + 1 = pc') (hv : FP.ddiv x y0 = v) (hn : NoNaN64 v) (K : Goes p e below E (T.setTop (mkF m pc' ls (.double v :: st)))) : Goes p e below E (T.setTop (mkF m pc ls (.double y0 :: .double x :: st))) := by
  subst hpc; exact K.back fun _ r => XS.ddivS W.here W.hx rfl (hb W.hby hd) rfl (by rw [hv]; exact hn) hv r
theorem g_dup (W : Wk Z y bytes ml ret n0 p l e R s m args below meth c T kc ks) {v : Value} (hd : decode bytes pc = .ok (.dup, 1)) (hpc : pc + 1 = pc') (hc : v.category = 1) (K : Goes p e below E (T.setTop (mkF m pc' ls (v :: v :: st)))) : Goes p e below E (T.setTop (mkF m pc ls (v :: st))) := by
  subst hpc; exact K.back fun _ r => XS.dup W.here W.hx rfl (hb W.hby hd) rfl hc r
theorem g_pop (W : Wk Z y bytes ml ret n0 p l e R s m args below meth c T kc ks) {v : Value} (hd : decode bytes pc = .ok (.pop, 1)) (hpc : pc + 1 = pc') (hc : v.category = 1) (K : Goes p e below E (T.setTop (mkF m pc' ls st))) : Goes p e below E (T.setTop (mkF m pc ls (v :: st))) := by
  subst hpc; exact K.back fun _ r => XT.pop W.here W.hx rfl (hb W.hby hd) rfl hc r
theorem g_dup_x1 (W : Wk Z y bytes ml ret n0 p l e R s m args below meth c T kc ks) {v w : Value} (hd : decode bytes pc = .ok (.dup_x1, 1)) (hpc : pc + 1 = pc') (hc : v.category = 1) (hc2 : w.category = 1) (K : Goes p e below E (T.setTop (mkF m pc' ls (v :: w :: v :: st)))) : Goes p e below E (T.setTop (mkF m pc ls (v :: w :: st))) := by
  subst hpc; exact K.back fun _ r => XT.dupX1 W.here W.hx rfl (hb W.hby hd) rfl hc hc2 r
theorem g_dup2 (W : Wk Z y bytes ml ret n0 p l e R s m args below meth c T kc ks) {v w : Value} (hd : decode bytes pc = .ok (.dup2, 1)) (hpc : pc + 1 = pc') (hc : v.category = 1) (hc2 : w.category = 1) (K : Goes p e below E (T.setTop (mkF m pc' ls (v :: w :: v :: w :: st)))) : Goes p e below E (T.setTop (mkF m pc ls (v :: w :: st))) := by
  subst hpc; exact K.back fun _ r => XT.dup2 W.here W.hx rfl (hb W.hby hd) rfl hc hc2 r
theorem g_iinc (W : Wk Z y bytes ml ret n0 p l e R s m args below meth c T kc ks) {i : Nat} {d : Int} {x v : Int32} {ls' : Array Slot} (hd : decode bytes pc = .ok (.iinc i d, 3)) (hpc : pc + 3 = pc') (h1 : ls[i]? = some (.val (.int x))) (hv : x + Int32.ofInt d = v) (hl : storeLocals ls i (.int v) = some ls') (K : Goes p e below E (T.setTop (mkF m pc' ls' st))) : Goes p e below E (T.setTop (mkF m pc ls st)) := by
  subst hpc; exact K.back fun _ r => XS.iinc W.here W.hx rfl (hb W.hby hd) h1 (by rw [hv]; exact hl) r
theorem g_idiv (W : Wk Z y bytes ml ret n0 p l e R s m args below meth c T kc ks) {x y0 v : Int32} (hd : decode bytes pc = .ok (.idiv, 1)) (hpc : pc + 1 = pc') (h0 : y0 ≠ 0) (hv : x / y0 = v) (K : Goes p e below E (T.setTop (mkF m pc' ls (.int v :: st)))) : Goes p e below E (T.setTop (mkF m pc ls (.int y0 :: .int x :: st))) := by
  subst hpc; exact K.back fun _ r => XS.idiv W.here W.hx rfl (hb W.hby hd) rfl h0 (by rw [hv]; exact r)
theorem g_irem (W : Wk Z y bytes ml ret n0 p l e R s m args below meth c T kc ks) {x y0 v : Int32} (hd : decode bytes pc = .ok (.irem, 1)) (hpc : pc + 1 = pc') (h0 : y0 ≠ 0) (hv : x - (x / y0) * y0 = v) (K : Goes p e below E (T.setTop (mkF m pc' ls (.int v :: st)))) : Goes p e below E (T.setTop (mkF m pc ls (.int y0 :: .int x :: st))) := by
  subst hpc; exact K.back fun _ r => XS.irem W.here W.hx rfl (hb W.hby hd) rfl h0 (by rw [hv]; exact r)
theorem g_ldiv (W : Wk Z y bytes ml ret n0 p l e R s m args below meth c T kc ks) {x y0 v : Int64} (hd : decode bytes pc = .ok (.ldiv, 1)) (hpc : pc + 1 = pc') (h0 : y0 ≠ 0) (hv : x / y0 = v) (K : Goes p e below E (T.setTop (mkF m pc' ls (.long v :: st)))) : Goes p e below E (T.setTop (mkF m pc ls (.long y0 :: .long x :: st))) := by
  subst hpc; exact K.back fun _ r => XT.ldiv W.here W.hx rfl (hb W.hby hd) rfl h0 (by rw [hv]; exact r)
theorem g_lrem (W : Wk Z y bytes ml ret n0 p l e R s m args below meth c T kc ks) {x y0 v : Int64} (hd : decode bytes pc = .ok (.lrem, 1)) (hpc : pc + 1 = pc') (h0 : y0 ≠ 0) (hv : x - (x / y0) * y0 = v) (K : Goes p e below E (T.setTop (mkF m pc' ls (.long v :: st)))) : Goes p e below E (T.setTop (mkF m pc ls (.long y0 :: .long x :: st))) := by
  subst hpc; exact K.back fun _ r => XT.lrem W.here W.hx rfl (hb W.hby hd) rfl h0 (by rw [hv]; exact r)
theorem g_lshl (W : Wk Z y bytes ml ret n0 p l e R s m args below meth c T kc ks) {x v : Int64} {y0 : Int32} (hd : decode bytes pc = .ok (.lshl, 1)) (hpc : pc + 1 = pc') (hv : x <<< (y0.toInt64 &&& 63) = v) (K : Goes p e below E (T.setTop (mkF m pc' ls (.long v :: st)))) : Goes p e below E (T.setTop (mkF m pc ls (.int y0 :: .long x :: st))) := by
  subst hpc; exact K.back fun _ r => XT.lshl W.here W.hx rfl (hb W.hby hd) rfl (by rw [hv]; exact r)
theorem g_lshr (W : Wk Z y bytes ml ret n0 p l e R s m args below meth c T kc ks) {x v : Int64} {y0 : Int32} (hd : decode bytes pc = .ok (.lshr, 1)) (hpc : pc + 1 = pc') (hv : x >>> (y0.toInt64 &&& 63) = v) (K : Goes p e below E (T.setTop (mkF m pc' ls (.long v :: st)))) : Goes p e below E (T.setTop (mkF m pc ls (.int y0 :: .long x :: st))) := by
  subst hpc; exact K.back fun _ r => XT.lshr W.here W.hx rfl (hb W.hby hd) rfl (by rw [hv]; exact r)
def cP : ClassFile.Cond → Int32 → Int32 → Prop
  | .eq, x, y => x = y
  | .ne, x, y => ¬ x = y
  | .lt, x, y => x < y
  | .ge, x, y => ¬ x < y
  | .gt, x, y => y < x
  | .le, x, y => ¬ y < x
theorem cP_yes {cd : ClassFile.Cond} {x y : Int32} (h : cP cd x y) : if_icmp.holds cd x y = true := by
  cases cd
  · exact (teq h).1
  · exact (feq h).2
  · exact (tlt h).1
  · exact (flt h).2.1
  · exact (tlt h).2.2.1
  · exact (flt h).2.2.2
theorem cP_no {cd : ClassFile.Cond} {x y : Int32} (h : ¬ cP cd x y) : if_icmp.holds cd x y = false := by
  cases cd
  · exact (feq h).1
  · exact (teq (Classical.not_not.mp h)).2
  · exact (flt h).1
  · exact (tlt (Classical.not_not.mp h)).2.1
  · exact (flt h).2.2.1
  · exact (tlt (Classical.not_not.mp h)).2.2.2
theorem g_goto (W : Wk Z y bytes ml ret n0 p l e R s m args below meth c T kc ks) {o : Int} (hd : decode bytes pc = .ok (.goto o, 3)) (hpc : (pc : Int) + o = (pc' : Nat)) (K : Goes p e below E (T.setTop (mkF m pc' ls st))) : Goes p e below E (T.setTop (mkF m pc ls st)) :=
  K.back fun _ r => XS.goto W.here W.hx rfl (pc0 := pc) (pc' := pc') rfl (hb W.hby hd) (by omega) (by omega) r
theorem g_if (W : Wk Z y bytes ml ret n0 p l e R s m args below meth c T kc ks) {cd : ClassFile.Cond} {x : Int32} {o : Int} {pcy : Nat} (hd : decode bytes pc = .ok (.ifCond cd o, 3)) (hy : (pc : Int) + o = (pcy : Nat)) (hpc : pc + 3 = pc') (KY : cP cd x 0 → Goes p e below E (T.setTop (mkF m pcy ls st))) (KN : ¬ cP cd x 0 → Goes p e below E (T.setTop (mkF m pc' ls st))) : Goes p e below E (T.setTop (mkF m pc ls (.int x :: st))) := by
  subst hpc
  by_cases q : cP cd x 0
  · exact (KY q).back fun _ r => XS.ifYes W.here W.hx rfl (pc0 := pc) (pc' := pcy) rfl (hb W.hby hd) rfl ((if0 _ _).trans (cP_yes q)) (by omega) (by omega) r
  · exact (KN q).back fun _ r => XS.ifNo W.here W.hx rfl (hb W.hby hd) rfl ((if0 _ _).trans (cP_no q)) r
theorem g_icmp (W : Wk Z y bytes ml ret n0 p l e R s m args below meth c T kc ks) {cd : ClassFile.Cond} {x y0 : Int32} {o : Int} {pcy : Nat} (hd : decode bytes pc = .ok (.if_icmp cd o, 3)) (hy : (pc : Int) + o = (pcy : Nat)) (hpc : pc + 3 = pc') (KY : cP cd x y0 → Goes p e below E (T.setTop (mkF m pcy ls st))) (KN : ¬ cP cd x y0 → Goes p e below E (T.setTop (mkF m pc' ls st))) : Goes p e below E (T.setTop (mkF m pc ls (.int y0 :: .int x :: st))) := by
  subst hpc
  by_cases q : cP cd x y0
  · exact (KY q).back fun _ r => XS.icmpYes W.here W.hx rfl (pc0 := pc) (pc' := pcy) rfl (hb W.hby hd) rfl (cP_yes q) (by omega) (by omega) r
  · exact (KN q).back fun _ r => XS.icmpNo W.here W.hx rfl (hb W.hby hd) rfl (cP_no q) r

theorem Wk.more (W : Wk Z y bytes ml ret n0 p l e R s m args below meth c T kc ks) {kc' ks' : Nat} (h1 : kc ≤ kc') (h2 : ks ≤ ks') : Wk Z y bytes ml ret n0 p l e R s m args below meth c T kc' ks' := by
  obtain ⟨A, locs, X, N⟩ := W
  exact ⟨A, locs, X.more h1 h2, N⟩
theorem cmpL_self (x : Int64) : XT.cmpL x x = 0 := by
  show (if x < x then (1 : Int32) else if x = x then 0 else -1) = 0
  rw [if_neg (fun q => by rw [Int64.lt_iff_toInt_lt] at q; omega), if_pos rfl]
/-! ### the ends -/
theorem g_leave (W : Wk Z y bytes ml ret n0 p l e R s m args below meth c T kc ks) {v : Option Value} {U : State} (hv : ret = none → v = none) (hQ : Q v T.heap) (hk : kc ≤ k) (hj : ks ≤ j)
    (st : ∀ fs, (∀ (f : JFrame) (acts : List Action), f.method = m → f.locked = none → f.entered = [] → (doReturn e (T.setTop f) acts v).1 = T.setFrames fs) → Steps p.tables e below U (T.setFrames fs)) : Goes p e below (En s n0 k j Q) U := by
  have hlk := W.hlk
  have hret := W.hret
  obtain ⟨_, locs, X, N⟩ := W
  obtain ⟨fs, hr, hrun, hended, hW, hsame⟩ := X.leave (v := v) (fun q => hv (hret ▸ q)) hlk
  exact ⟨_, v, locs, st fs hr, hrun, hended, ⟨N, hQ⟩, ⟨_, rfl⟩, hW, hsame.mono hk hj⟩
theorem g_return (W : Wk Z y bytes ml none n0 p l e R s m args below meth c T kc ks) (hd : decode bytes pc = .ok (.return_, 1)) (hQ : Q none T.heap) (hk : kc ≤ k) (hj : ks ≤ j) : Goes p e below (En s n0 k j Q) (T.setTop (mkF m pc ls [])) :=
  g_leave W (fun _ => rfl) hQ hk hj fun fs hr => by
    have hret := W.hret
    have hx := W.hx
    have hby := W.hby
    obtain ⟨_, locs, X, N⟩ := W
    exact X.returnOut hx hret (hb hby hd) hr
theorem g_ret {t : FieldType} (W : Wk Z y bytes ml (some t) n0 p l e R s m args below meth c T kc ks) {w : Value} {i : Instr} (hn : narrow t w = w)
    (hi : (i = .ireturn ∧ (t = .int ∨ t = .boolean ∨ t = .byte ∨ t = .char ∨ t = .short) ∧ ∃ z, w = .int z) ∨ (i = .lreturn ∧ t = .long ∧ ∃ z, w = .long z) ∨ (i = .dreturn ∧ t = .double ∧ ∃ z, w = .double z) ∨ (i = .freturn ∧ t = .float ∧ ∃ z, w = .float z) ∨ (i = .areturn ∧ t.isReference = true ∧ w.isRef = true))
    (hd : decode bytes pc = .ok (i, 1)) (hQ : Q (some w) T.heap) (hk : kc ≤ k) (hj : ks ≤ j) : Goes p e below (En s n0 k j Q) (T.setTop (mkF m pc ls (w :: st))) :=
  g_leave W (fun q => nomatch q) hQ hk hj fun fs hr => by
    have hret := W.hret
    have hx := W.hx
    have hby := W.hby
    obtain ⟨_, locs, X, N⟩ := W
    exact retOut X hx hret hn hi (hb hby hd) hr
theorem g_ireturn (W : Wk Z y bytes ml (some .int) n0 p l e R s m args below meth c T kc ks) {x : Int32} (hd : decode bytes pc = .ok (.ireturn, 1)) (hQ : Q (some (.int x)) T.heap) (hk : kc ≤ k) (hj : ks ≤ j) : Goes p e below (En s n0 k j Q) (T.setTop (mkF m pc ls (.int x :: st))) :=
  g_ret W rfl (Or.inl ⟨rfl, Or.inl rfl, _, rfl⟩) hd hQ hk hj
theorem g_zreturn (W : Wk Z y bytes ml (some .boolean) n0 p l e R s m args below meth c T kc ks) {x : Int32} (h01 : x &&& 1 = x) (hd : decode bytes pc = .ok (.ireturn, 1)) (hQ : Q (some (.int x)) T.heap) (hk : kc ≤ k) (hj : ks ≤ j) : Goes p e below (En s n0 k j Q) (T.setTop (mkF m pc ls (.int x :: st))) :=
  g_ret W (by show Value.int (x &&& 1) = _; rw [h01]) (Or.inl ⟨rfl, Or.inr (Or.inl rfl), _, rfl⟩) hd hQ hk hj
theorem g_areturn {t : FieldType} (W : Wk Z y bytes ml (some t) n0 p l e R s m args below meth c T kc ks) {v : Value} (ht : t.isReference = true) (hr : v.isRef = true) (hd : decode bytes pc = .ok (.areturn, 1)) (hQ : Q (some v) T.heap) (hk : kc ≤ k) (hj : ks ≤ j) : Goes p e below (En s n0 k j Q) (T.setTop (mkF m pc ls (v :: st))) :=
  g_ret W (by cases t <;> first | (cases ht; done) | rfl) (Or.inr (Or.inr (Or.inr (Or.inr ⟨rfl, ht, hr⟩)))) hd hQ hk hj
theorem g_lreturn (W : Wk Z y bytes ml (some .long) n0 p l e R s m args below meth c T kc ks) {x : Int64} (hd : decode bytes pc = .ok (.lreturn, 1)) (hQ : Q (some (.long x)) T.heap) (hk : kc ≤ k) (hj : ks ≤ j) : Goes p e below (En s n0 k j Q) (T.setTop (mkF m pc ls (.long x :: st))) :=
  g_ret W rfl (Or.inr (Or.inl ⟨rfl, rfl, _, rfl⟩)) hd hQ hk hj
theorem g_dreturn (W : Wk Z y bytes ml (some .double) n0 p l e R s m args below meth c T kc ks) {x : UInt64} (hd : decode bytes pc = .ok (.dreturn, 1)) (hQ : Q (some (.double x)) T.heap) (hk : kc ≤ k) (hj : ks ≤ j) : Goes p e below (En s n0 k j Q) (T.setTop (mkF m pc ls (.double x :: st))) :=
  g_ret W rfl (Or.inr (Or.inr (Or.inl ⟨rfl, rfl, _, rfl⟩))) hd hQ hk hj
/-! ### the head of a body -/
theorem con_of {ws : List Cond} {rm : Room} {as : Array Value} {h0 : Heap} {Post : Option Value → Heap → Prop} (hpn : plainFor y = true)
    (body : ∀ (p : Program) (e : Env) (s : State) (m : MethodId) (below : List Frame) (meth : Method) (c : Code) (T : State), Wk Z y bytes ml ret n0 p l e rm s m as below meth c T 0 0 → T.heap = h0 → Goes p e below (En s n0 rm.cells rm.slots Post) (T.setTop (entryFrame m as ml))) :
    Con l Z n0 y ws bytes ml ret rm as h0 Post := by
  refine MetFree.of_bodySF hpn hisR ?_
  intro p e s m args below meth c s₁ Bd hml0 hP hK
  obtain ⟨rfl, hZ, hh⟩ := hP
  obtain ⟨s₂, v, L, g1, g2, g3, g4, g5⟩ := body p e s m below meth c s₁ ⟨⟨Bd.exec, hZ, findClass_of_methodNamed Bd.named, Bd.bytes, hml0, Bd.returns, Bd.notSynchronized, (name_of_methodNamed Bd.named Bd.method).1⟩, [], Stand.of_body Bd, Fr.nil n0⟩ (by rw [← hh, Bd.state]; rfl)
  exact ⟨s₂, _, g1, g2, g3, v, L, rfl, g4, g5⟩
theorem g_cast {g g' : JFrame} (q : g = g') (K : Goes p e below E (T.setTop g')) : Goes p e below E (T.setTop g) := q ▸ K
/-! ### constants of the pool -/
theorem g_ldcInt (W : Wk Z y bytes ml ret n0 p l e R s m args below meth c T kc ks) {ix : Nat} {v : Int32} (w : (Cond.constant y.cls ix v).before a0 Z = true) (hd : decode bytes pc = .ok (.ldc ix, 2)) (hpc : pc + 2 = pc') (K : Goes p e below E (T.setTop (mkF m pc' ls (.int v :: st)))) : Goes p e below E (T.setTop (mkF m pc ls st)) := by
  subst hpc
  have hx := W.hx; have hby := W.hby; have hown := W.hown; have hZ := W.hZ
  obtain ⟨_, locs, X, N⟩ := W
  exact K.back fun _ r => X.ldcInt hx hown (mvT hZ w) (g := mkF m pc ls st) rfl (hb hby hd) _ r
theorem g_ldc2Long (W : Wk Z y bytes ml ret n0 p l e R s m args below meth c T kc ks) {ix : Nat} {v : Int64} (w : (Cond.constantLong y.cls ix v).before a0 Z = true) (hd : decode bytes pc = .ok (.ldc2_w ix, 3)) (hpc : pc + 3 = pc') (K : Goes p e below E (T.setTop (mkF m pc' ls (.long v :: st)))) : Goes p e below E (T.setTop (mkF m pc ls st)) := by
  subst hpc
  have hx := W.hx; have hby := W.hby; have hown := W.hown; have hZ := W.hZ
  obtain ⟨_, locs, X, N⟩ := W
  exact K.back fun _ r => X.ldc2Long hx hown (mvT hZ w) (g := mkF m pc ls st) rfl (hb hby hd) _ r
theorem g_ldc2Double (W : Wk Z y bytes ml ret n0 p l e R s m args below meth c T kc ks) {ix : Nat} {v : UInt64} (w : (Cond.constantDouble y.cls ix v).before a0 Z = true) (hd : decode bytes pc = .ok (.ldc2_w ix, 3)) (hpc : pc + 3 = pc') (K : Goes p e below E (T.setTop (mkF m pc' ls (.double v :: st)))) : Goes p e below E (T.setTop (mkF m pc ls st)) := by
  subst hpc
  have hx := W.hx; have hby := W.hby; have hown := W.hown; have hZ := W.hZ
  obtain ⟨_, locs, X, N⟩ := W
  exact K.back fun _ r => X.ldc2DoubleC hx hown (mvT hZ w) (g := mkF m pc ls st) rfl (hb hby hd) _ r
theorem g_ldcFloat (W : Wk Z y bytes ml ret n0 p l e R s m args below meth c T kc ks) {ix : Nat} {v : UInt32} (w : (Cond.constantFloat y.cls ix v).before a0 Z = true) (hd : decode bytes pc = .ok (.ldc ix, 2)) (hpc : pc + 2 = pc') (K : Goes p e below E (T.setTop (mkF m pc' ls (.float v :: st)))) : Goes p e below E (T.setTop (mkF m pc ls st)) := by
  subst hpc
  have hx := W.hx; have hby := W.hby; have hown := W.hown; have hZ := W.hZ
  obtain ⟨_, locs, X, N⟩ := W
  exact K.back fun _ r => X.ldcFloatC hx hown (mvT hZ w) (g := mkF m pc ls st) rfl (hb hby hd) _ r
/-! ### the heap: a list of places, each with what its cell is -/
abbrev HRow := Addr × (Cell → Prop)
/-- what was there at the start Z is as it was -/
def Bs (Z : State) (n0 : Nat) (h : Heap) : Prop := n0 ≤ h.size ∧ Z.heap.size ≤ n0 ∧ Ext Z.heap h
def Hp (Z : State) (n0 : Nat) (h : Heap) (L : List HRow) : Prop := Bs Z n0 h ∧ (L.map (·.1)).Nodup ∧ ∀ r ∈ L, n0 ≤ r.1 ∧ ∃ c : Cell, h[r.1]? = some c ∧ r.2 c
abbrev FR := String × String × String × Value
def FldC (Z : State) (f : FR) (c : Cell) : Prop := ∃ (cf : ClassId) (k : Class) (i : Nat) (fd : Field), Z.fieldFound? f.1 f.2.1 f.2.2.1 = some (cf, k, i, fd) ∧ fd.isStatic = false ∧ Z.vm.assignable c.cls cf = true ∧ c.slots[fd.slot]? = some f.2.2.2
def ObC (Z : State) (C : String) (fs : List FR) (c : Cell) : Prop :=
  (∃ k : Class, Z.vm.findClass C = some c.cls ∧ Z.vm.classes[c.cls]? = some k ∧ (k.kind = .ordinary → c.slots.size = k.instanceTypes.size)) ∧ c.vm ≠ .unknown ∧ c.vm.isStatics = false ∧ (∀ f ∈ fs, FldC Z f c) ∧ (fs.map fun f => RoadKit.slotOf Z f.1 f.2.1 f.2.2.1).Nodup
def ArC (Z : State) (ty : FieldType) (vs : List Value) (c : Cell) : Prop := Z.isArrayOf c ty ∧ c.vm ≠ .unknown ∧ c.slots = vs.toArray ∧ vs.length < 2 ^ 31
section Heap
variable {h h' : Heap} {L : List HRow} {a : Addr} {P P' : Cell → Prop} {cell : Cell} {i jx : Nat} {C O n d R0 : String} {fs : List FR} {v w : Value} {vs : List Value} {ty : FieldType}
theorem Bs.start : Bs Z Z.heap.size Z.heap := ⟨Nat.le_refl _, Nat.le_refl _, Nat.le_refl _, fun _ _ q => q⟩
theorem Bs.ext (q : Bs Z n0 h) (E : Ext h h') : Bs Z n0 h' := ⟨Nat.le_trans q.1 E.1, q.2.1, Nat.le_trans q.2.2.1 E.1, fun a c r => E.2 a c (q.2.2.2 a c r)⟩
theorem Bs.put (q : Bs Z n0 h) (ha : n0 ≤ a) (c' : Cell) : Bs Z n0 (h.setIfInBounds a c') := by
  refine ⟨by simpa using q.1, q.2.1, by simpa using q.2.2.1, fun x c r => ?_⟩
  have hx := (Array.getElem?_eq_some_iff.mp r).1
  have := q.2.1
  rw [Array.getElem?_setIfInBounds_ne (by omega)]; exact q.2.2.2 x c r
theorem Hp.nil (q : Bs Z n0 h) : Hp Z n0 h [] := ⟨q, List.nodup_nil, fun _ r => nomatch r⟩
theorem Hp.get (H : Hp Z n0 h L) (hi : L[i]? = some (a, P)) : n0 ≤ a ∧ ∃ c : Cell, h[a]? = some c ∧ P c := H.2.2 (a, P) (List.mem_of_getElem? hi)
theorem map_set_same {α β : Type} (f : α → β) : ∀ (L : List α) (i : Nat) (x x' : α), L[i]? = some x → f x' = f x → (L.set i x').map f = L.map f
  | [], _, _, _, h, _ => by simp at h
  | z :: L, 0, x, x', h, e => by simp at h; subst h; simp [e]
  | z :: L, i + 1, x, x', h, e => by simp at h; simp [map_set_same f L i x x' h e]
theorem nodup_inj {α : Type} {l : List α} (h : l.Nodup) {i j : Nat} {x : α} (hi : l[i]? = some x) (hj : l[j]? = some x) : i = j := (List.getElem?_inj (List.getElem?_eq_some_iff.mp hi).1 h).mp (hi.trans hj.symm)
theorem erase_perm {α : Type} : ∀ (L : List α) (i : Nat) (x : α), L[i]? = some x → L.Perm (x :: L.eraseIdx i)
  | [], _, _, h => by simp at h
  | z :: L, 0, x, h => by simp at h; subst h; exact List.Perm.refl _
  | z :: L, i + 1, x, h => by
    simp at h
    exact ((erase_perm L i x h).cons z).trans (List.Perm.swap x z _)
theorem Hp.put (H : Hp Z n0 h L) (hi : L[i]? = some (a, P)) {c' : Cell} (hP : P' c') : Hp Z n0 (h.setIfInBounds a c') (L.set i (a, P')) := by
  obtain ⟨h1, h2, h3⟩ := H
  obtain ⟨q1, c0, q2, -⟩ := Hp.get ⟨h1, h2, h3⟩ hi
  have hlt := (Array.getElem?_eq_some_iff.mp q2).1
  refine ⟨h1.put q1 c', by rw [map_set_same (·.1) L i (a, P) (a, P') hi rfl]; exact h2, fun r hr => ?_⟩
  obtain ⟨jj, hj, hjr⟩ := List.mem_iff_getElem.mp hr
  have hjL : jj < L.length := by simpa using hj
  by_cases e : jj = i
  · subst e
    rw [List.getElem_set_self] at hjr
    subst hjr
    exact ⟨q1, c', by simp [hlt], hP⟩
  · rw [List.getElem_set_ne (Ne.symm e)] at hjr
    have hm : r ∈ L := hjr ▸ List.getElem_mem hjL
    obtain ⟨g1, c1, g2, g3⟩ := h3 r hm
    refine ⟨g1, c1, ?_, g3⟩
    have hne : a ≠ r.1 := fun q => by
      have e1 : (L.map (·.1))[i]? = some a := by rw [List.getElem?_map, hi]; rfl
      have e2 : (L.map (·.1))[jj]? = some a := by rw [List.getElem?_map, List.getElem?_eq_getElem hjL, hjr, q]; rfl
      exact e (nodup_inj h2 e2 e1)
    rw [Array.getElem?_setIfInBounds_ne hne]; exact g2
theorem Hp.push (H : Hp Z n0 h L) (E : Ext h h') {c : Cell} (hc : h'[h.size]? = some c) (hP : P c) : Hp Z n0 h' ((h.size, P) :: L) := by
  refine ⟨H.1.ext E, ?_, fun r hr => ?_⟩
  · rw [List.map_cons, List.nodup_cons]
    refine ⟨fun q => ?_, H.2.1⟩
    obtain ⟨r, hr, e⟩ := List.mem_map.mp q
    obtain ⟨-, c1, g2, -⟩ := H.2.2 r hr
    have := (Array.getElem?_eq_some_iff.mp g2).1
    have e' : r.1 = h.size := e
    rw [e'] at this; exact Nat.lt_irrefl _ this
  · rcases List.mem_cons.mp hr with rfl | hr
    · exact ⟨H.1.1, c, hc, hP⟩
    · obtain ⟨g1, c1, g2, g3⟩ := H.2.2 r hr
      exact ⟨g1, c1, E.2 _ _ g2, g3⟩
theorem Hp.perm {L' : List HRow} (H : Hp Z n0 h L) (q : L.Perm L') : Hp Z n0 h L' := ⟨H.1, (q.map _).nodup_iff.mp H.2.1, fun r hr => H.2.2 r (q.mem_iff.mpr hr)⟩
theorem Hp.front {r : HRow} (H : Hp Z n0 h L) (hi : L[i]? = some r) {L' : List HRow} (hL : r :: L.eraseIdx i = L') : Hp Z n0 h L' := by
  subst hL
  exact H.perm (erase_perm L i r hi)
theorem Hp.imp (H : Hp Z n0 h L) (hi : L[i]? = some (a, P)) (q : ∀ c, P c → P' c) : Hp Z n0 h (L.set i (a, P')) := by
  obtain ⟨q1, c0, q2, q3⟩ := H.get hi
  have := H.put hi (q c0 q3)
  have e : h.setIfInBounds a c0 = h := by
    apply Array.ext_getElem?; intro x
    by_cases z : a = x
    · subst z; simp [(Array.getElem?_eq_some_iff.mp q2).1, ← q2]
    · rw [Array.getElem?_setIfInBounds_ne z]
  rw [e] at this; exact this
theorem Hp.tail {r : HRow} (H : Hp Z n0 h (r :: L)) : Hp Z n0 h L := ⟨H.1, (List.nodup_cons.mp H.2.1).2, fun x hx => H.2.2 x (List.mem_cons_of_mem _ hx)⟩
theorem Hp.ne (H : Hp Z n0 h L) {b : Addr} (hi : L[i]? = some (a, P)) (hj : L[jx]? = some (b, P')) (hne : i ≠ jx) : a ≠ b := fun q => by
  have e1 : (L.map (·.1))[i]? = some a := by rw [List.getElem?_map, hi]; rfl
  have e2 : (L.map (·.1))[jx]? = some a := by rw [List.getElem?_map, hj, q]; rfl
  exact hne (nodup_inj H.2.1 e1 e2)
theorem FldC.fld {f : FR} (F : FldC Z f cell) (hc : h[a]? = some cell) (hu : cell.vm ≠ .unknown) (hst : cell.vm.isStatics = false) : Fld Z h a f.1 f.2.1 f.2.2.1 f.2.2.2 := by
  obtain ⟨cf, k, i, fd, h1, h2, h3, h4⟩ := F
  exact ⟨cell, cf, k, i, fd, hc, h1, h2, hu, hst, h3, h4⟩
theorem ObC.exa (F : ObC Z C fs cell) (hc : h[a]? = some cell) : Exa Z h a C := by
  obtain ⟨⟨k, h1, h2, h3⟩, h4, h5, -⟩ := F
  exact ⟨cell, k, hc, h1, h2, h5, h3⟩
theorem ObC.put (F : ObC Z C fs cell) (hj : fs[jx]? = some (O, n, d, v)) : ObC Z C (fs.set jx (O, n, d, w)) (cell.setSlot (RoadKit.slotOf Z O n d) w) := by
  obtain ⟨⟨k, h1, h2, h3⟩, h4, h5, h6, h7⟩ := F
  refine ⟨⟨k, h1, h2, fun q => by rw [sz_set]; exact h3 q⟩, h4, h5, fun f hf => ?_, by rw [map_set_same (fun f : FR => RoadKit.slotOf Z f.1 f.2.1 f.2.2.1) fs jx (O, n, d, v) (O, n, d, w) hj rfl]; exact h7⟩
  obtain ⟨hjL, hjE⟩ := List.getElem?_eq_some_iff.mp hj
  obtain ⟨ii, hi, hie⟩ := List.mem_iff_getElem.mp hf
  have hiL : ii < fs.length := by simpa using hi
  by_cases e : ii = jx
  · subst e
    rw [List.getElem_set_self] at hie
    subst hie
    obtain ⟨cf, kf, i, fd, g1, g2, g3, g4⟩ := h6 _ (hjE ▸ List.getElem_mem hjL)
    refine ⟨cf, kf, i, fd, g1, g2, g3, ?_⟩
    have es : RoadKit.slotOf Z O n d = fd.slot := by simp only [RoadKit.slotOf]; rw [show Z.fieldFound? O n d = _ from g1]; rfl
    have hlt := (Array.getElem?_eq_some_iff.mp g4).1
    simp [Cell.setSlot, es, hlt]
  · rw [List.getElem_set_ne (Ne.symm e)] at hie
    have hm : f ∈ fs := hie ▸ List.getElem_mem hiL
    obtain ⟨cf, kf, i, fd, g1, g2, g3, g4⟩ := h6 f hm
    refine ⟨cf, kf, i, fd, g1, g2, g3, ?_⟩
    have es : RoadKit.slotOf Z f.1 f.2.1 f.2.2.1 = fd.slot := by simp only [RoadKit.slotOf]; rw [g1]; rfl
    have hne : RoadKit.slotOf Z O n d ≠ fd.slot := fun q => by
      have e1 : (fs.map fun f => RoadKit.slotOf Z f.1 f.2.1 f.2.2.1)[jx]? = some fd.slot := by rw [List.getElem?_map, hj, ← q]; rfl
      have e2 : (fs.map fun f => RoadKit.slotOf Z f.1 f.2.1 f.2.2.1)[ii]? = some fd.slot := by rw [List.getElem?_map, List.getElem?_eq_getElem hiL, hie, ← es]; rfl
      exact e (nodup_inj h7 e2 e1)
    show (cell.slots.setIfInBounds _ w)[fd.slot]? = _
    rw [Array.getElem?_setIfInBounds_ne hne]; exact g4
/-- what a class's layout words give: each field laid, its first value, the names apart -/
def LaidAll (Z : State) (a0 : Array Value) (C : String) (fs : List FR) : Prop := ∀ f ∈ fs, Laid Z a0 C f.1 f.2.1 f.2.2.1 ∧ ∃ t, parseFieldDescriptor f.2.2.1 = some t ∧ f.2.2.2 = defaultValue t
theorem LaidAll.nil : LaidAll Z a0 C [] := fun _ q => nomatch q
theorem LaidAll.cons {t : FieldType} (q : Laid Z a0 C O n d) (ht : parseFieldDescriptor d = some t) (hv : v = defaultValue t) (r : LaidAll Z a0 C fs) : LaidAll Z a0 C ((O, n, d, v) :: fs) := fun f hf => by
  rcases List.mem_cons.mp hf with rfl | hf
  · exact ⟨q, t, ht, hv⟩
  · exact r f hf
theorem LaidAll.slots (H : LaidAll Z a0 C fs) (q : (fs.map (·.2.1)).Nodup) : (fs.map fun f => RoadKit.slotOf Z f.1 f.2.1 f.2.2.1).Nodup := by
  induction fs with
  | nil => exact List.nodup_nil
  | cons f fs ih =>
    rw [List.map_cons, List.nodup_cons] at q ⊢
    refine ⟨fun z => ?_, ih (fun x hx => H x (List.mem_cons_of_mem _ hx)) q.2⟩
    obtain ⟨g, hg, e⟩ := List.mem_map.mp z
    obtain ⟨L1, t1, p1, -⟩ := H f (List.mem_cons_self ..)
    obtain ⟨L2, t2, p2, -⟩ := H g (List.mem_cons_of_mem _ hg)
    exact slot_ne L2 L1 (fun u => q.1 (List.mem_map.mpr ⟨g, hg, u⟩)) p2 p1 e
/-! ### the steps that read or write it -/
theorem g_getf (W : Wk Z y bytes ml ret n0 p l e R s m args below meth c T kc ks) {ix : Nat} (w : (Cond.fieldLink y.cls ix R0 n d).before a0 Z = true) (via : Via Z R0 O n d) (H : Hp Z n0 T.heap L) (hi : L[i]? = some (a, ObC Z C fs)) (hj : fs[jx]? = some (O, n, d, v)) (hd : decode bytes pc = .ok (.getfield ix, 3)) (hpc : pc + 3 = pc')
    (K : ∀ T', Wk Z y bytes ml ret n0 p l e R s m args below meth c T' kc ks → Hp Z n0 T'.heap L → Goes p e below E (T'.setTop (mkF m pc' ls (v :: st)))) : Goes p e below E (T.setTop (mkF m pc ls (.ref a :: st))) := by
  subst hpc
  have hx := W.hx; have hby := W.hby; have hown := W.hown; have hZ := W.hZ
  obtain ⟨A, locs, X, N⟩ := W
  obtain ⟨-, cl, q1, q2⟩ := H.get hi
  have F := (q2.2.2.2.1 _ (List.mem_of_getElem? hj)).fld q1 q2.2.1 q2.2.2.1
  obtain ⟨T', X', e', st'⟩ := getF X hx hZ hown (host := "") (Or.inl w) via rfl F (g := mkF m pc ls (.ref a :: st)) rfl rfl (hb hby hd)
  exact (K T' ⟨A, locs, X', N⟩ (e' ▸ H)).back st'
theorem g_putf (W : Wk Z y bytes ml ret n0 p l e R s m args below meth c T kc ks) {ix kk : Nat} (wd : (Cond.fieldLink y.cls ix R0 n d).before a0 Z = true) (via : Via Z R0 O n d) (wl : (Cond.lays C O n d).before a0 Z = true ∨ ((Cond.laysFinal C O n d).before a0 Z = true ∧ y.cls = O ∧ y.name = "<init>")) (wi : (Cond.instantiable C kk).before a0 Z = true) (hty : parseFieldDescriptor d = some ty) (hn : narrow ty w = w) (hf : fits ty w = true)
    (H : Hp Z n0 T.heap L) (hi : L[i]? = some (a, ObC Z C fs)) (hj : fs[jx]? = some (O, n, d, v)) (hd : decode bytes pc = .ok (.putfield ix, 3)) (hpc : pc + 3 = pc') {L' : List HRow} (hL : L.set i (a, ObC Z C (fs.set jx (O, n, d, w))) = L')
    (K : ∀ T', Wk Z y bytes ml ret n0 p l e R s m args below meth c T' kc ks → Hp Z n0 T'.heap L' → Goes p e below E (T'.setTop (mkF m pc' ls st))) : Goes p e below E (T.setTop (mkF m pc ls (w :: .ref a :: st))) := by
  subst hpc hL
  have hx := W.hx; have hby := W.hby; have hown := W.hown; have hZ := W.hZ; have hnm := W.hnm
  obtain ⟨A, locs, X, N⟩ := W
  obtain ⟨hn0, cl, q1, q2⟩ := H.get hi
  have F := (q2.2.2.2.1 _ (List.mem_of_getElem? hj)).fld q1 q2.2.1 q2.2.2.1
  obtain ⟨T', h', X', e', Wr', st'⟩ := putF X hx hZ hown (host := "") (Or.inl wd) via rfl F (q2.exa q1) (wl.imp id fun q => ⟨q.1, q.2.1, hnm.trans q.2.2⟩) wi hty hn hf (g := mkF m pc ls (w :: .ref a :: st)) rfl rfl (hb hby hd)
  obtain ⟨cl', g1, -, -, rfl⟩ := Wr'
  cases q1.symm.trans g1
  exact (K T' ⟨A, _, X', Fr.snoc X' N hn0⟩ (by rw [e']; exact H.put hi (q2.put hj))).back st'
theorem g_new (W : Wk Z y bytes ml ret n0 p l e R s m args below meth c T kc ks) {ix nn : Nat} (w : (Cond.classLink y.cls ix C).before a0 Z = true) (wi : (Cond.instantiable C nn).before a0 Z = true) (wz : (Cond.initialized C).before a0 Z = true) (la : LaidAll Z a0 C fs) (nd : (fs.map (·.2.1)).Nodup) (H : Hp Z n0 T.heap L) (hd : decode bytes pc = .ok (.new ix, 3)) (hpc : pc + 3 = pc')
    {kc' ks' : Nat} (hkc : kc + 1 = kc') (hks : ks + nn = ks') (hc : kc' ≤ R.cells) (hl : ks' ≤ R.slots)
    (K : ∀ T' a, Wk Z y bytes ml ret n0 p l e R s m args below meth c T' kc' ks' → Hp Z n0 T'.heap ((a, ObC Z C fs) :: L) → Goes p e below E (T'.setTop (mkF m pc' ls (.ref a :: st)))) : Goes p e below E (T.setTop (mkF m pc ls st)) := by
  subst hpc hkc hks
  have hx := W.hx; have hby := W.hby; have hown := W.hown; have hZ := W.hZ
  obtain ⟨A, locs, X, N⟩ := W
  obtain ⟨T', h', X', e', E', X1, D, ⟨cell, hcell, hvm, -⟩, st'⟩ := newO X hx hZ hown w wi wz rfl (g := mkF m pc ls st) rfl (hb hby hd) hc hl
  have hob : ObC Z C fs cell := by
    obtain ⟨cell', k', g1, g2, g3, g4, g5⟩ := X1
    cases hcell.symm.trans g1
    refine ⟨⟨k', g2, g3, g5⟩, by rw [hvm]; simp, g4, fun f hf => ?_, la.slots nd⟩
    obtain ⟨Lf, t, ht, hv⟩ := la f hf
    obtain ⟨c2, cf, kf, ii, fd, r1, r2, r3, -, -, r6, r7⟩ := D Lf ht
    cases hcell.symm.trans r1
    exact ⟨cf, kf, ii, fd, r2, r3, r6, by rw [hv]; exact r7⟩
  exact (K T' T.heap.size ⟨A, locs, X', N⟩ (by rw [e']; exact H.push E' hcell hob)).back st'
theorem g_initO (W : Wk Z y bytes ml ret n0 p l e R s m args below meth c T kc ks) {ix : Nat} (w1 : (Cond.methodLink y.cls ix Lib.objectInit).before a0 Z = true) (w2 : (Cond.instanceMethod Lib.objectInit).before a0 Z = true) (w3 : (Cond.code Lib.objectInit ⟨#[0xb1]⟩ 1 none).before a0 Z = true) (H : Hp Z n0 T.heap L) (hls : ls.size = ml) (hd : decode bytes pc = .ok (.invokespecial ix, 3)) (hpc : pc + 3 = pc')
    (hf : 1 ≤ R.frames) {Wn : Nat} (hW : (st.map fun v => v.category).sum ≤ Wn) (hl : Wn + 12 ≤ R.locals)
    (K : ∀ T', Wk Z y bytes ml ret n0 p l e R s m args below meth c T' kc ks → Hp Z n0 T'.heap L → Goes p e below E (T'.setTop (mkF m pc' ls st))) : Goes p e below E (T.setTop (mkF m pc ls (.ref a :: st))) := by
  subst hpc
  have hx := W.hx; have hby := W.hby; have hown := W.hown; have hZ := W.hZ; have hml := W.hml
  obtain ⟨A, locs, X, N⟩ := W
  obtain ⟨T', X', e', st'⟩ := initO X hx hZ hown w1 w2 w3 rfl (g := mkF m pc ls (.ref a :: st)) rfl (by rw [hml]; exact hls) rfl (hb hby hd) hf (W := Wn) (by show 2 * 0 + _ ≤ _; omega) hl
  exact (K T' ⟨A, locs, X', N⟩ (e' ▸ H)).back st'
/-! ### arrays -/
theorem ArC.arr (F : ArC Z ty vs cell) (hc : h[a]? = some cell) : Arr Z h a cell ty := ⟨hc, F.1, F.2.1⟩
theorem idx_ok {x : Int32} (hx : x.toInt = (jx : Int)) (F : ArC Z ty vs cell) (hj : jx < vs.length) : ¬ (x < 0 ∨ cell.slots.size ≤ x.toNatClampNeg) := by
  rw [F.2.2.1]
  have e0 : (0 : Int32).toInt = 0 := rfl
  simp only [Int32.lt_iff_toInt_lt, Int32.toNatClampNeg, List.size_toArray, e0, hx]; omega
theorem idx_nat {x : Int32} (hx : x.toInt = (jx : Int)) : x.toNatClampNeg = jx := by simp only [Int32.toNatClampNeg, hx]; omega
theorem g_newarr (W : Wk Z y bytes ml ret n0 p l e R s m args below meth c T kc ks) {aty : ArrayType} (w : (Cond.arrayClass (newarray.typeOf aty)).before a0 Z = true) (H : Hp Z n0 T.heap L) {x : Int32} (hx0 : ¬ x < 0) (hvs : List.replicate x.toNatClampNeg (defaultValue (newarray.typeOf aty)) = vs) {cap : Nat} (hcap : vs.length ≤ cap) (hcb : cap * 8 ≤ 536870912) (hd : decode bytes pc = .ok (.newarray aty, 2)) (hpc : pc + 2 = pc')
    {kc' ks' : Nat} (hkc : kc + 1 = kc') (hks : ks + cap = ks') (hc : kc' ≤ R.cells) (hl : ks' ≤ R.slots)
    (K : ∀ T' a, Wk Z y bytes ml ret n0 p l e R s m args below meth c T' kc' ks' → Hp Z n0 T'.heap ((a, ArC Z (newarray.typeOf aty) vs) :: L) → Goes p e below E (T'.setTop (mkF m pc' ls (.ref a :: st)))) : Goes p e below E (T.setTop (mkF m pc ls (.int x :: st))) := by
  subst hpc hkc hks hvs
  have hx := W.hx; have hby := W.hby; have hZ := W.hZ
  obtain ⟨A, locs, X, N⟩ := W
  rw [List.length_replicate] at hcap
  obtain ⟨T', h', cA, X', e', E', A1, st'⟩ := newP X hx hZ w rfl (g := mkF m pc ls (.int x :: st)) rfl (hb hby hd) rfl hx0 hcap hcb hc hl
  have hl31 : (List.replicate x.toNatClampNeg (defaultValue (newarray.typeOf aty))).length < 2 ^ 31 := by rw [List.length_replicate]; omega
  exact (K T' T.heap.size ⟨A, locs, X', N⟩ (by rw [e']; exact H.push E' A1.1 ⟨A1.2.1, A1.2.2, by simp [newA], hl31⟩)).back st'
theorem g_arrlen (W : Wk Z y bytes ml ret n0 p l e R s m args below meth c T kc ks) (H : Hp Z n0 T.heap L) (hi : L[i]? = some (a, ArC Z ty vs)) {x : Int32} (hx : vs.length.toInt32 = x) (hd : decode bytes pc = .ok (.arraylength, 1)) (hpc : pc + 1 = pc') (K : Goes p e below E (T.setTop (mkF m pc' ls (.int x :: st)))) : Goes p e below E (T.setTop (mkF m pc ls (.ref a :: st))) := by
  subst hpc hx
  have hx := W.hx; have hby := W.hby; have hZ := W.hZ
  obtain ⟨A, locs, X, N⟩ := W
  obtain ⟨-, cl, q1, q2⟩ := H.get hi
  refine K.back fun t r => X.arraylength hx q1 (State.isArrayOf_alike hZ.alike q2.1) (g := mkF m pc ls (.ref a :: st)) rfl rfl (hb hby hd) t ?_
  have e : cl.slots.size = vs.length := by rw [q2.2.2.1]; simp
  rw [e]; exact r
theorem g_iaload (W : Wk Z y bytes ml ret n0 p l e R s m args below meth c T kc ks) (H : Hp Z n0 T.heap L) (hi : L[i]? = some (a, ArC Z .int vs)) {x : Int32} (hx : x.toInt = (jx : Int)) (hv : vs[jx]? = some v) (hd : decode bytes pc = .ok (.iaload, 1)) (hpc : pc + 1 = pc') (K : Goes p e below E (T.setTop (mkF m pc' ls (v :: st)))) : Goes p e below E (T.setTop (mkF m pc ls (.int x :: .ref a :: st))) := by
  subst hpc
  have hxx := W.hx; have hby := W.hby; have hZ := W.hZ
  obtain ⟨A, locs, X, N⟩ := W
  obtain ⟨-, cl, q1, q2⟩ := H.get hi
  exact K.back fun t r => X.iaload hxx q1 (State.isArrayOf_alike hZ.alike q2.1) q2.2.1 (idx_ok hx q2 (List.getElem?_eq_some_iff.mp hv).1) (by rw [idx_nat hx, q2.2.2.1]; simpa using hv) (g := mkF m pc ls (.int x :: .ref a :: st)) rfl rfl (hb hby hd) t r
theorem g_laload (W : Wk Z y bytes ml ret n0 p l e R s m args below meth c T kc ks) (H : Hp Z n0 T.heap L) (hi : L[i]? = some (a, ArC Z .long vs)) {x : Int32} (hx : x.toInt = (jx : Int)) (hv : vs[jx]? = some v) (hd : decode bytes pc = .ok (.laload, 1)) (hpc : pc + 1 = pc') (K : Goes p e below E (T.setTop (mkF m pc' ls (v :: st)))) : Goes p e below E (T.setTop (mkF m pc ls (.int x :: .ref a :: st))) := by
  subst hpc
  have hxx := W.hx; have hby := W.hby; have hZ := W.hZ
  obtain ⟨A, locs, X, N⟩ := W
  obtain ⟨-, cl, q1, q2⟩ := H.get hi
  exact K.back fun t r => X.laload hxx q1 (State.isArrayOf_alike hZ.alike q2.1) q2.2.1 (idx_ok hx q2 (List.getElem?_eq_some_iff.mp hv).1) (by rw [idx_nat hx, q2.2.2.1]; simpa using hv) (g := mkF m pc ls (.int x :: .ref a :: st)) rfl rfl (hb hby hd) t r
theorem g_daload (W : Wk Z y bytes ml ret n0 p l e R s m args below meth c T kc ks) (H : Hp Z n0 T.heap L) (hi : L[i]? = some (a, ArC Z .double vs)) {x : Int32} (hx : x.toInt = (jx : Int)) (hv : vs[jx]? = some v) (hd : decode bytes pc = .ok (.daload, 1)) (hpc : pc + 1 = pc') (K : Goes p e below E (T.setTop (mkF m pc' ls (v :: st)))) : Goes p e below E (T.setTop (mkF m pc ls (.int x :: .ref a :: st))) := by
  subst hpc
  have hxx := W.hx; have hby := W.hby; have hZ := W.hZ
  obtain ⟨A, locs, X, N⟩ := W
  obtain ⟨-, cl, q1, q2⟩ := H.get hi
  exact K.back fun t r => X.daload hxx q1 (State.isArrayOf_alike hZ.alike q2.1) q2.2.1 (idx_ok hx q2 (List.getElem?_eq_some_iff.mp hv).1) (by rw [idx_nat hx, q2.2.2.1]; simpa using hv) (g := mkF m pc ls (.int x :: .ref a :: st)) rfl rfl (hb hby hd) t r
theorem g_iastore (W : Wk Z y bytes ml ret n0 p l e R s m args below meth c T kc ks) (H : Hp Z n0 T.heap L) (hi : L[i]? = some (a, ArC Z .int vs)) {x : Int32} {u : Int32} (hx : x.toInt = (jx : Int)) (hj : jx < vs.length) (hd : decode bytes pc = .ok (.iastore, 1)) (hpc : pc + 1 = pc') {L' : List HRow} (hL : L.set i (a, ArC Z .int (vs.set jx (.int u))) = L')
    (K : ∀ T', Wk Z y bytes ml ret n0 p l e R s m args below meth c T' kc ks → Hp Z n0 T'.heap L' → Goes p e below E (T'.setTop (mkF m pc' ls st))) : Goes p e below E (T.setTop (mkF m pc ls (.int u :: .int x :: .ref a :: st))) := by
  subst hpc hL
  have hxx := W.hx; have hby := W.hby; have hZ := W.hZ
  obtain ⟨A, locs, X, N⟩ := W
  obtain ⟨hn0, cl, q1, q2⟩ := H.get hi
  obtain ⟨T', h', X', e', Wr', st'⟩ := stI X hxx hZ rfl (q2.arr q1) (idx_ok hx q2 hj) (g := mkF m pc ls (.int u :: .int x :: .ref a :: st)) rfl rfl (hb hby hd)
  obtain ⟨cl', g1, -, -, rfl⟩ := Wr'
  cases q1.symm.trans g1
  have hsl : (cl.setSlot x.toNatClampNeg (.int u)).slots = (vs.set jx (.int u)).toArray := by rw [idx_nat hx]; show cl.slots.setIfInBounds jx _ = _; rw [q2.2.2.1]; simp
  exact (K T' ⟨A, _, X', Fr.snoc X' N hn0⟩ (by rw [e']; exact H.put hi ⟨q2.1, q2.2.1, hsl, by rw [List.length_set]; exact q2.2.2.2⟩)).back st'
theorem g_lastore (W : Wk Z y bytes ml ret n0 p l e R s m args below meth c T kc ks) (H : Hp Z n0 T.heap L) (hi : L[i]? = some (a, ArC Z .long vs)) {x : Int32} {u : Int64} (hx : x.toInt = (jx : Int)) (hj : jx < vs.length) (hd : decode bytes pc = .ok (.lastore, 1)) (hpc : pc + 1 = pc') {L' : List HRow} (hL : L.set i (a, ArC Z .long (vs.set jx (.long u))) = L')
    (K : ∀ T', Wk Z y bytes ml ret n0 p l e R s m args below meth c T' kc ks → Hp Z n0 T'.heap L' → Goes p e below E (T'.setTop (mkF m pc' ls st))) : Goes p e below E (T.setTop (mkF m pc ls (.long u :: .int x :: .ref a :: st))) := by
  subst hpc hL
  have hxx := W.hx; have hby := W.hby; have hZ := W.hZ
  obtain ⟨A, locs, X, N⟩ := W
  obtain ⟨hn0, cl, q1, q2⟩ := H.get hi
  obtain ⟨T', h', X', e', Wr', st'⟩ := stJ X hxx hZ rfl (q2.arr q1) (idx_ok hx q2 hj) (g := mkF m pc ls (.long u :: .int x :: .ref a :: st)) rfl rfl (hb hby hd)
  obtain ⟨cl', g1, -, -, rfl⟩ := Wr'
  cases q1.symm.trans g1
  have hsl : (cl.setSlot x.toNatClampNeg (.long u)).slots = (vs.set jx (.long u)).toArray := by rw [idx_nat hx]; show cl.slots.setIfInBounds jx _ = _; rw [q2.2.2.1]; simp
  exact (K T' ⟨A, _, X', Fr.snoc X' N hn0⟩ (by rw [e']; exact H.put hi ⟨q2.1, q2.2.1, hsl, by rw [List.length_set]; exact q2.2.2.2⟩)).back st'
theorem g_dastore (W : Wk Z y bytes ml ret n0 p l e R s m args below meth c T kc ks) (H : Hp Z n0 T.heap L) (hi : L[i]? = some (a, ArC Z .double vs)) {x : Int32} {u : UInt64} (hx : x.toInt = (jx : Int)) (hj : jx < vs.length) (hd : decode bytes pc = .ok (.dastore, 1)) (hpc : pc + 1 = pc') {L' : List HRow} (hL : L.set i (a, ArC Z .double (vs.set jx (.double u))) = L')
    (K : ∀ T', Wk Z y bytes ml ret n0 p l e R s m args below meth c T' kc ks → Hp Z n0 T'.heap L' → Goes p e below E (T'.setTop (mkF m pc' ls st))) : Goes p e below E (T.setTop (mkF m pc ls (.double u :: .int x :: .ref a :: st))) := by
  subst hpc hL
  have hxx := W.hx; have hby := W.hby; have hZ := W.hZ
  obtain ⟨A, locs, X, N⟩ := W
  obtain ⟨hn0, cl, q1, q2⟩ := H.get hi
  obtain ⟨T', h', X', e', Wr', st'⟩ := stD X hxx hZ rfl (q2.arr q1) (idx_ok hx q2 hj) (g := mkF m pc ls (.double u :: .int x :: .ref a :: st)) rfl rfl (hb hby hd)
  obtain ⟨cl', g1, -, -, rfl⟩ := Wr'
  cases q1.symm.trans g1
  have hsl : (cl.setSlot x.toNatClampNeg (.double u)).slots = (vs.set jx (.double u)).toArray := by rw [idx_nat hx]; show cl.slots.setIfInBounds jx _ = _; rw [q2.2.2.1]; simp
  exact (K T' ⟨A, _, X', Fr.snoc X' N hn0⟩ (by rw [e']; exact H.put hi ⟨q2.1, q2.2.1, hsl, by rw [List.length_set]; exact q2.2.2.2⟩)).back st'
end Heap
/-! ### calls by contract -/
section Calls
variable {y' : MethodName} {bytes' : ByteArray} {ml' : Nat} {ret' : Option FieldType} {rm : Room} {Post : Option Value → Heap → Prop} {argsL stk : List Value} {ix : Nat} {Wn kc' ks' : Nat} {ps : List FieldType} {rt : Option FieldType}
theorem g_callS (W : Wk Z y bytes ml ret n0 p l e R s m args below meth c T kc ks) (w1 : (Cond.methodLink y.cls ix y').before a0 Z = true) (w2 : (Cond.static y').before a0 Z = true) (w3 : (Cond.initialized y'.cls).before a0 Z = true) (w4 : (Cond.code y' bytes' ml' ret').before a0 Z = true) (hy : y'.cls ≠ "java/lang/invoke/MethodHandle" ∧ y'.cls ≠ "java/lang/invoke/VarHandle")
    (con : Con l Z n0 y' [] bytes' ml' ret' rm argsL.toArray T.heap Post) (hpd : parseMethodDescriptor y'.desc = some ⟨ps, rt⟩) (hlen : argsL.length = ps.length) (hstk : stk = argsL.reverse ++ st) (hls : ls.size = ml) (hd : decode bytes pc = .ok (.invokestatic ix, 3)) (hpc : pc + 3 = pc')
    (hf : rm.frames + 1 ≤ R.frames) (hW : (st.map fun v => v.category).sum ≤ Wn) (hl : Wn + (ml' + 11) + rm.locals ≤ R.locals) (hkc : kc + rm.cells = kc') (hks : ks + rm.slots = ks') (hc : kc' ≤ R.cells) (hs : ks' ≤ R.slots)
    (K : ∀ T' v, Wk Z y bytes ml ret n0 p l e R s m args below meth c T' kc' ks' → Post v T'.heap → Goes p e below E (T'.setTop (mkF m pc' ls (v.toList ++ st)))) : Goes p e below E (T.setTop (mkF m pc ls stk)) := by
  subst hpc hkc hks hstk
  have hx := W.hx; have hby := W.hby; have hown := W.hown; have hZ := W.hZ; have hml := W.hml
  obtain ⟨A, locs, X, N⟩ := W
  obtain ⟨v, vm1, ⟨T', L', kk, jj⟩, -, X', ⟨Lc, ⟨hN, hQ⟩, l1, l2, l3⟩, st'⟩ := Jvm.LawKit.callS X hx hown (mvT hZ w1) (mvT hZ w2) (mvT hZ w3) (mvT hZ w4) hy (backOf (Q := fun v h L => Fr n0 L ∧ Post v h) (W := Wn) con hZ w4 w3 hf hl) (g := mkF m pc ls (argsL.reverse ++ st)) rfl (by rw [hml]; exact hls) (argsL := argsL) (rest := st) (lenOf hpd hlen) rfl (by show 2 * 0 + _ ≤ _; omega) (hb hby hd) (fun _ _ => ⟨rfl, rfl, hc, hs⟩)
  dsimp only [Pt.U, Pt.locs, Pt.cells, Pt.slots] at X' l1 l2 l3 hQ st'
  subst l1 l2 l3
  exact (K T' v ⟨A, _, X', N.app hN⟩ hQ).back st'
theorem g_callI (W : Wk Z y bytes ml ret n0 p l e R s m args below meth c T kc ks) (hin : y'.name = "<init>") (w1 : (Cond.methodLink y.cls ix y').before a0 Z = true) (w2 : (Cond.instanceMethod y').before a0 Z = true) (w3 : (Cond.initialized y'.cls).before a0 Z = true) (w4 : (Cond.code y' bytes' ml' none).before a0 Z = true) (hy : y'.cls ≠ "java/lang/invoke/MethodHandle" ∧ y'.cls ≠ "java/lang/invoke/VarHandle")
    {a : Addr} (con : Con l Z n0 y' [] bytes' ml' none rm (.ref a :: argsL).toArray T.heap Post) (hpd : parseMethodDescriptor y'.desc = some ⟨ps, rt⟩) (hlen : argsL.length = ps.length) (hstk : stk = argsL.reverse ++ .ref a :: st) (hls : ls.size = ml) (hd : decode bytes pc = .ok (.invokespecial ix, 3)) (hpc : pc + 3 = pc')
    (hf : rm.frames + 1 ≤ R.frames) (hW : (st.map fun v => v.category).sum ≤ Wn) (hl : Wn + (ml' + 11) + rm.locals ≤ R.locals) (hkc : kc + rm.cells = kc') (hks : ks + rm.slots = ks') (hc : kc' ≤ R.cells) (hs : ks' ≤ R.slots)
    (K : ∀ T' v, Wk Z y bytes ml ret n0 p l e R s m args below meth c T' kc' ks' → Post v T'.heap → Goes p e below E (T'.setTop (mkF m pc' ls (v.toList ++ st)))) : Goes p e below E (T.setTop (mkF m pc ls stk)) := by
  subst hpc hkc hks hstk
  have hx := W.hx; have hby := W.hby; have hown := W.hown; have hZ := W.hZ; have hml := W.hml
  obtain ⟨A, locs, X, N⟩ := W
  obtain ⟨v, vm1, ⟨T', L', kk, jj⟩, -, X', ⟨Lc, ⟨hN, hQ⟩, l1, l2, l3⟩, st'⟩ := X.specialBack hx (y := y') hin hown (mvT hZ w1) (mvT hZ w2) (mvT hZ w4) hy (backOf (Q := fun v h L => Fr n0 L ∧ Post v h) (W := Wn) con hZ w4 w3 hf hl) (g := mkF m pc ls (argsL.reverse ++ .ref a :: st)) rfl (by rw [hml]; exact hls) (Steps.refl _) (a := a) (argsL := argsL) (rest := st) (lenOf hpd hlen) rfl (by show 2 * 0 + _ ≤ _; omega) (hb hby hd) (fun _ _ => ⟨rfl, rfl, hc, hs⟩)
  dsimp only [Pt.U, Pt.locs, Pt.cells, Pt.slots] at X' l1 l2 l3 hQ st'
  subst l1 l2 l3
  exact (K T' v ⟨A, _, X', N.app hN⟩ hQ).back fun t r => st'.trans r
theorem g_callV (W : Wk Z y bytes ml ret n0 p l e R s m args below meth c T kc ks) {C : String} {fs : List FR} {L : List HRow} {i : Nat} (w1 : (Cond.methodLink y.cls ix y').before a0 Z = true) (w2 : (Cond.declares y').before a0 Z = true) (w3 : (Cond.selects C y' y').before a0 Z = true) (w4 : (Cond.instanceMethod y').before a0 Z = true) (w5 : (Cond.initialized y'.cls).before a0 Z = true) (w6 : (Cond.code y' bytes' ml' ret').before a0 Z = true) (hy : y'.cls ≠ "java/lang/invoke/MethodHandle" ∧ y'.cls ≠ "java/lang/invoke/VarHandle")
    {a : Addr} (H : Hp Z n0 T.heap L) (hi : L[i]? = some (a, ObC Z C fs)) (con : Con l Z n0 y' [] bytes' ml' ret' rm (.ref a :: argsL).toArray T.heap Post) (hpd : parseMethodDescriptor y'.desc = some ⟨ps, rt⟩) (hlen : argsL.length = ps.length) (hstk : stk = argsL.reverse ++ .ref a :: st) (hls : ls.size = ml) (hd : decode bytes pc = .ok (.invokevirtual ix, 3)) (hpc : pc + 3 = pc')
    (hf : rm.frames + 1 ≤ R.frames) (hW : (st.map fun v => v.category).sum ≤ Wn) (hl : Wn + (ml' + 11) + rm.locals ≤ R.locals) (hkc : kc + rm.cells = kc') (hks : ks + rm.slots = ks') (hc : kc' ≤ R.cells) (hs : ks' ≤ R.slots)
    (K : ∀ T' v, Wk Z y bytes ml ret n0 p l e R s m args below meth c T' kc' ks' → Post v T'.heap → Goes p e below E (T'.setTop (mkF m pc' ls (v.toList ++ st)))) : Goes p e below E (T.setTop (mkF m pc ls stk)) := by
  subst hpc hkc hks hstk
  have hx := W.hx; have hby := W.hby; have hown := W.hown; have hZ := W.hZ; have hml := W.hml
  obtain ⟨A, locs, X, N⟩ := W
  obtain ⟨-, cl, q1, q2⟩ := H.get hi
  obtain ⟨cB, kB, b1, b2, b3⟩ := isOf hZ rfl (q2.exa q1)
  obtain ⟨v, vm1, ⟨T', L', kk, jj⟩, -, X', ⟨Lc, ⟨hN, hQ⟩, l1, l2, l3⟩, st'⟩ := X.virtualBack hx (y := y') hown (mvT hZ w1) (mvT hZ w2) (notFace_of_selects (args := #[]) (mvT hZ w3)) (mvT hZ w3) (mvT hZ w4) hy (backOf (Q := fun v h L => Fr n0 L ∧ Post v h) (W := Wn) con hZ w6 w5 hf hl) b1 b3 (g := mkF m pc ls (argsL.reverse ++ .ref a :: st)) rfl (by rw [hml]; exact hls) (Steps.refl _) (argsL := argsL) (rest := st) (lenOf hpd hlen) rfl (by show 2 * 0 + _ ≤ _; omega) (hb hby hd) (fun _ _ => ⟨rfl, rfl, hc, hs⟩)
  dsimp only [Pt.U, Pt.locs, Pt.cells, Pt.slots] at X' l1 l2 l3 hQ st'
  subst l1 l2 l3
  exact (K T' v ⟨A, _, X', N.app hN⟩ hQ).back fun t r => st'.trans r
theorem g_callP (W : Wk Z y bytes ml ret n0 p l e R s m args below meth c T kc ks) {C : String} {fs : List FR} {L : List HRow} {i nn : Nat} (w1 : (Cond.methodLink y.cls ix y').before a0 Z = true) (w2 : (Cond.instanceMethod y').before a0 Z = true) (w3 : (Cond.privateMethod y').before a0 Z = true) (w4 : (Cond.instantiable y'.cls nn).before a0 Z = true) (w5 : (Cond.initialized y'.cls).before a0 Z = true) (w6 : (Cond.code y' bytes' ml' ret').before a0 Z = true) (hy : y'.cls ≠ "java/lang/invoke/MethodHandle" ∧ y'.cls ≠ "java/lang/invoke/VarHandle")
    {a : Addr} (H : Hp Z n0 T.heap L) (hi : L[i]? = some (a, ObC Z C fs)) (con : Con l Z n0 y' [] bytes' ml' ret' rm (.ref a :: argsL).toArray T.heap Post) (hpd : parseMethodDescriptor y'.desc = some ⟨ps, rt⟩) (hlen : argsL.length = ps.length) (hstk : stk = argsL.reverse ++ .ref a :: st) (hls : ls.size = ml) (hd : decode bytes pc = .ok (.invokevirtual ix, 3)) (hpc : pc + 3 = pc')
    (hf : rm.frames + 1 ≤ R.frames) (hW : (st.map fun v => v.category).sum ≤ Wn) (hl : Wn + (ml' + 11) + rm.locals ≤ R.locals) (hkc : kc + rm.cells = kc') (hks : ks + rm.slots = ks') (hc : kc' ≤ R.cells) (hs : ks' ≤ R.slots)
    (K : ∀ T' v, Wk Z y bytes ml ret n0 p l e R s m args below meth c T' kc' ks' → Post v T'.heap → Goes p e below E (T'.setTop (mkF m pc' ls (v.toList ++ st)))) : Goes p e below E (T.setTop (mkF m pc ls stk)) := by
  subst hpc hkc hks hstk
  have hx := W.hx; have hby := W.hby; have hown := W.hown; have hZ := W.hZ; have hml := W.hml
  obtain ⟨A, locs, X, N⟩ := W
  obtain ⟨-, cl, q1, q2⟩ := H.get hi
  have hst : ∀ q, cl.vm ≠ .statics q := fun q hq => by have := q2.2.2.1; rw [hq] at this; cases this
  obtain ⟨mk, methM, hnamed, hmethM, hstM, habM⟩ := Cond.instanceMethod_spec (args := #[]) (mvT hZ w2)
  obtain ⟨methM', cM, hmethM', -, -, -, -, -, -, hsigM⟩ := Cond.code_spec (args := #[]) hnamed (mvT hZ w6)
  cases hmethM.symm.trans hmethM'
  obtain ⟨cP0, kP, hf1, hkP, -, hkPi, -⟩ := Cond.instantiable_spec (mvT hZ w4 (args := #[]))
  cases (findClass_of_methodNamed hnamed).symm.trans hf1
  have hkPi' : kP.isInterface = false := (Bool.or_eq_false_iff.mp hkPi).1
  have hselP : selectMethod e.platform s.vm cl.cls mk = .method mk := selectMethod_private hmethM (Cond.privateMethod_at (mvP hZ w3 (args := #[])) mk methM hnamed hmethM)
  obtain ⟨vm1, X1, hstep1⟩ := X.invokevirtual hx hown (mvT hZ w1) hnamed hmethM hstM hkP hkPi' hy (a := a) (cell := cl) q1 hst hselP hmethM habM hkP hkPi' (g := mkF m pc ls (argsL.reverse ++ .ref a :: st)) rfl (argsL := argsL) (rest := st) (lenOf hpd hlen _ hsigM) rfl (hb hby hd)
  obtain ⟨v, ⟨T', L', kk, jj⟩, X', ⟨Lc, ⟨hN, hQ⟩, l1, l2, l3⟩, st'⟩ := (backOf (Q := fun v h L => Fr n0 L ∧ Post v h) (W := Wn) (len := 3) (p := p) (e := e) (below := below) (args := args) con hZ w6 w5 hf hl) m meth c ⟨T.setVm vm1, locs, kc, ks⟩ (mkF m pc ls st) (.invokevirtual ix) mk (.ref a :: argsL).toArray X1 rfl (by rw [hml]; exact hls) (hb hby hd) (by show 2 * 0 + (st.map fun v => v.category).sum ≤ Wn; omega) (X1.named hnamed) ⟨rfl, rfl, hc, hs⟩
  dsimp only [Pt.U, Pt.locs, Pt.cells, Pt.slots] at X' l1 l2 l3 hQ st'
  subst l1 l2 l3
  exact (K T' v ⟨A, _, X', N.app hN⟩ hQ).back fun t r => ((hstep1 _ fun acts => by rw [doInvoke_state]; exact Steps.refl _).trans st').trans r
end Calls
end Laws
end Jvm.OwnKit


@@BLOCK:NumsL.lean.txt@@
namespace Jvm.OwnKit
open Jvm.Free
/-! ### ints -/
theorem i32_zero {x : Int32} : x.toInt = 0 ↔ x = 0 := ⟨fun h => Int32.toInt_inj.mp (h.trans (by decide)), fun h => by rw [h]; decide⟩
theorem i32_lit {x y : Int32} {k : Int} (h : x.toInt = k) (hy : y.toInt = k) : x = y := Int32.toInt_inj.mp (h.trans hy.symm)
theorem and1 (x : Int32) : x &&& 1 = 0 ∨ x &&& 1 = 1 := by
  have h := Kit.i32_mask x 1 (k := 1) (by decide) (by decide)
  have q : (x &&& 1).toInt = 0 ∨ (x &&& 1).toInt = 1 := by omega
  rcases q with q | q
  · exact Or.inl (i32_lit q (by decide))
  · exact Or.inr (i32_lit q (by decide))
theorem and3 (x : Int32) : x &&& 3 = 0 ∨ x &&& 3 = 1 ∨ x &&& 3 = 2 ∨ x &&& 3 = 3 := by
  have h := Kit.i32_mask x 3 (k := 2) (by decide) (by decide)
  have q : (x &&& 3).toInt = 0 ∨ (x &&& 3).toInt = 1 ∨ (x &&& 3).toInt = 2 ∨ (x &&& 3).toInt = 3 := by omega
  rcases q with q | q | q | q
  · exact Or.inl (i32_lit q (by decide))
  · exact Or.inr (Or.inl (i32_lit q (by decide)))
  · exact Or.inr (Or.inr (Or.inl (i32_lit q (by decide))))
  · exact Or.inr (Or.inr (Or.inr (i32_lit q (by decide))))
theorem i32_remW (x y : Int32) : (x - (x / y) * y).toInt = x.toInt.tmod y.toInt := by
  have a := (x % y).toInt_lt; have b := (x % y).le_toInt
  rw [Int32.toInt_mod] at a b
  rw [Int32.toInt_sub, Int32.toInt_mul, Int32.toInt_div, Int.bmod_mul_bmod, Int.sub_bmod_bmod, Int.mul_comm, ← Int.tmod_def]
  exact Kit.bmod32 b a
theorem i32_remN {x y : Int32} (hx : 0 ≤ x.toInt) : (x - (x / y) * y).toInt = x.toInt % y.toInt := by rw [i32_remW, Int.tmod_eq_emod_of_nonneg hx]
theorem lt1 {j : Int32} (h : ¬ j < 0) (h2 : j < 1) : j = 0 := by
  rw [Int32.lt_iff_toInt_lt] at h h2
  have e0 : (0 : Int32).toInt = 0 := by decide
  have e1 : (1 : Int32).toInt = 1 := by decide
  exact i32_lit (k := 0) (by omega) e0
theorem lt2 {j : Int32} (h : ¬ j < 0) (h2 : j < 2) : j = 0 ∨ j = 1 := by
  rw [Int32.lt_iff_toInt_lt] at h h2
  have e0 : (0 : Int32).toInt = 0 := by decide
  have e1 : (2 : Int32).toInt = 2 := by decide
  have q : j.toInt = 0 ∨ j.toInt = 1 := by omega
  rcases q with q | q
  · exact Or.inl (i32_lit q (by decide))
  · exact Or.inr (i32_lit q (by decide))
theorem lt3 {j : Int32} (h : ¬ j < 0) (h2 : j < 3) : j = 0 ∨ j = 1 ∨ j = 2 := by
  rw [Int32.lt_iff_toInt_lt] at h h2
  have e0 : (0 : Int32).toInt = 0 := by decide
  have e1 : (3 : Int32).toInt = 3 := by decide
  have q : j.toInt = 0 ∨ j.toInt = 1 ∨ j.toInt = 2 := by omega
  rcases q with q | q | q
  · exact Or.inl (i32_lit q (by decide))
  · exact Or.inr (Or.inl (i32_lit q (by decide)))
  · exact Or.inr (Or.inr (i32_lit q (by decide)))
theorem lt0 {j : Int32} {P : Prop} (h : ¬ j < 0) (h2 : j < 0) : P := absurd h2 h
theorem cmpL3 (x y : Int64) : (x < y ∧ XT.cmpL x y = -1) ∨ (x = y ∧ XT.cmpL x y = 0) ∨ (y < x ∧ XT.cmpL x y = 1) := by
  have e : XT.cmpL x y = (if y < x then (1 : Int32) else if x = y then 0 else -1) := rfl
  by_cases h1 : y < x
  · exact Or.inr (Or.inr ⟨h1, by rw [e, if_pos h1]⟩)
  · by_cases h2 : x = y
    · exact Or.inr (Or.inl ⟨h2, by rw [e, if_neg h1, if_pos h2]⟩)
    · refine Or.inl ⟨?_, by rw [e, if_neg h1, if_neg h2]⟩
      rw [Int64.lt_iff_toInt_lt] at h1 ⊢
      have : x.toInt ≠ y.toInt := fun q => h2 (Int64.toInt_inj.mp q)
      omega
theorem cmpL_eq0 {x y : Int64} : XT.cmpL x y = 0 ↔ x = y := by
  rcases cmpL3 x y with ⟨h, g⟩ | ⟨h, g⟩ | ⟨h, g⟩ <;> rw [g]
  · exact ⟨fun q => absurd q (by decide), fun q => by subst q; rw [Int64.lt_iff_toInt_lt] at h; omega⟩
  · exact ⟨fun _ => h, fun _ => rfl⟩
  · exact ⟨fun q => absurd q (by decide), fun q => by subst q; rw [Int64.lt_iff_toInt_lt] at h; omega⟩
theorem cmpL_gt0 {x y : Int64} : (0 : Int32) < XT.cmpL x y ↔ y < x := by
  rcases cmpL3 x y with ⟨h, g⟩ | ⟨h, g⟩ | ⟨h, g⟩ <;> rw [g]
  · exact ⟨fun q => absurd q (by decide), fun q => by rw [Int64.lt_iff_toInt_lt] at h q; omega⟩
  · exact ⟨fun q => absurd q (by decide), fun q => by subst h; rw [Int64.lt_iff_toInt_lt] at q; omega⟩
  · exact ⟨fun _ => h, fun _ => by decide⟩
theorem cmpL_lt0 {x y : Int64} : XT.cmpL x y < (0 : Int32) ↔ x < y := by
  rcases cmpL3 x y with ⟨h, g⟩ | ⟨h, g⟩ | ⟨h, g⟩ <;> rw [g]
  · exact ⟨fun _ => h, fun _ => by decide⟩
  · exact ⟨fun q => absurd q (by decide), fun q => by subst h; rw [Int64.lt_iff_toInt_lt] at q; omega⟩
  · exact ⟨fun q => absurd q (by decide), fun q => by rw [Int64.lt_iff_toInt_lt] at h q; omega⟩
end Jvm.OwnKit

namespace Jvm.Pilot.@@N@@
open Jvm Jvm.ClassFile Sem Op Lib Jvm.Free Jvm.Stand Jvm.LawKit Jvm.RoadKit Jvm.OwnKit Jvm.Free.Fl Bundle Jvm.Pilot.@@N@@.Jvm.D
theorem wd_0 {Z : State} {a0 : Array Value} (hw : ∀ d ∈ tables_1, d.before a0 Z = true) : (Jvm.Cond.arrayClass Jvm.ClassFile.FieldType.double).before a0 Z = true := hw _ (List.mem_of_getElem? (i := 0) rfl)
theorem wd_1 {Z : State} {a0 : Array Value} (hw : ∀ d ∈ tables_1, d.before a0 Z = true) : (Jvm.Cond.arrayClass Jvm.ClassFile.FieldType.long).before a0 Z = true := hw _ (List.mem_of_getElem? (i := 1) rfl)
theorem wd_2 {Z : State} {a0 : Array Value} (hw : ∀ d ∈ tables_1, d.before a0 Z = true) : (Jvm.Cond.constantLong "com/example/dipper/dipper/CentroidsMeanAtPinLaw" (11 : Nat) (4 : Int64)).before a0 Z = true := hw _ (List.mem_of_getElem? (i := 2) rfl)
theorem wd_3 {Z : State} {a0 : Array Value} (hw : ∀ d ∈ tables_1, d.before a0 Z = true) : (Jvm.Cond.classLink "com/example/dipper/dipper/CentroidsMeanAtPinLaw" (13 : Nat) "com/example/dipper/dipper/Centroids").before a0 Z = true := hw _ (List.mem_of_getElem? (i := 3) rfl)
theorem wd_4 {Z : State} {a0 : Array Value} (hw : ∀ d ∈ tables_1, d.before a0 Z = true) : (Jvm.Cond.instantiable "com/example/dipper/dipper/Centroids" (5 : Nat)).before a0 Z = true := hw _ (List.mem_of_getElem? (i := 4) rfl)
theorem wd_5 {Z : State} {a0 : Array Value} (hw : ∀ d ∈ tables_1, d.before a0 Z = true) : (Jvm.Cond.initialized "com/example/dipper/dipper/Centroids").before a0 Z = true := hw _ (List.mem_of_getElem? (i := 5) rfl)
theorem wd_6 {Z : State} {a0 : Array Value} (hw : ∀ d ∈ tables_1, d.before a0 Z = true) : (Jvm.Cond.methodLink "com/example/dipper/dipper/CentroidsMeanAtPinLaw" (15 : Nat) ({ cls := "com/example/dipper/dipper/Centroids", name := "<init>", desc := "([D[JJDD)V" } : Jvm.MethodName)).before a0 Z = true := hw _ (List.mem_of_getElem? (i := 6) rfl)
theorem wd_7 {Z : State} {a0 : Array Value} (hw : ∀ d ∈ tables_1, d.before a0 Z = true) : (Jvm.Cond.instanceMethod ({ cls := "com/example/dipper/dipper/Centroids", name := "<init>", desc := "([D[JJDD)V" } : Jvm.MethodName)).before a0 Z = true := hw _ (List.mem_of_getElem? (i := 7) rfl)
theorem wd_8 {Z : State} {a0 : Array Value} (hw : ∀ d ∈ tables_1, d.before a0 Z = true) : (Jvm.Cond.code ({ cls := "com/example/dipper/dipper/Centroids", name := "<init>", desc := "([D[JJDD)V" } : Jvm.MethodName) prog_4_method_1_code (9 : Nat) (Option.none : Option Jvm.ClassFile.FieldType)).before a0 Z = true := hw _ (List.mem_of_getElem? (i := 8) rfl)
theorem wd_9 {Z : State} {a0 : Array Value} (hw : ∀ d ∈ tables_1, d.before a0 Z = true) : (Jvm.Cond.methodLink "com/example/dipper/dipper/Centroids" (3 : Nat) ({ cls := "java/lang/Object", name := "<init>", desc := "()V" } : Jvm.MethodName)).before a0 Z = true := hw _ (List.mem_of_getElem? (i := 9) rfl)
theorem wd_10 {Z : State} {a0 : Array Value} (hw : ∀ d ∈ tables_1, d.before a0 Z = true) : (Jvm.Cond.instanceMethod ({ cls := "java/lang/Object", name := "<init>", desc := "()V" } : Jvm.MethodName)).before a0 Z = true := hw _ (List.mem_of_getElem? (i := 10) rfl)
theorem wd_11 {Z : State} {a0 : Array Value} (hw : ∀ d ∈ tables_1, d.before a0 Z = true) : (Jvm.Cond.code ({ cls := "java/lang/Object", name := "<init>", desc := "()V" } : Jvm.MethodName) object_method_1_code (1 : Nat) (Option.none : Option Jvm.ClassFile.FieldType)).before a0 Z = true := hw _ (List.mem_of_getElem? (i := 11) rfl)
theorem wd_12 {Z : State} {a0 : Array Value} (hw : ∀ d ∈ tables_1, d.before a0 Z = true) : (Jvm.Cond.fieldLink "com/example/dipper/dipper/Centroids" (9 : Nat) "com/example/dipper/dipper/Centroids" "means" "[D").before a0 Z = true := hw _ (List.mem_of_getElem? (i := 12) rfl)
theorem wd_13 {Z : State} {a0 : Array Value} (hw : ∀ d ∈ tables_1, d.before a0 Z = true) : (Jvm.Cond.laysFinal "com/example/dipper/dipper/Centroids" "com/example/dipper/dipper/Centroids" "means" "[D").before a0 Z = true := hw _ (List.mem_of_getElem? (i := 13) rfl)
theorem wd_14 {Z : State} {a0 : Array Value} (hw : ∀ d ∈ tables_1, d.before a0 Z = true) : (Jvm.Cond.fieldLink "com/example/dipper/dipper/Centroids" (13 : Nat) "com/example/dipper/dipper/Centroids" "weights" "[J").before a0 Z = true := hw _ (List.mem_of_getElem? (i := 14) rfl)
theorem wd_15 {Z : State} {a0 : Array Value} (hw : ∀ d ∈ tables_1, d.before a0 Z = true) : (Jvm.Cond.laysFinal "com/example/dipper/dipper/Centroids" "com/example/dipper/dipper/Centroids" "weights" "[J").before a0 Z = true := hw _ (List.mem_of_getElem? (i := 15) rfl)
theorem wd_16 {Z : State} {a0 : Array Value} (hw : ∀ d ∈ tables_1, d.before a0 Z = true) : (Jvm.Cond.fieldLink "com/example/dipper/dipper/Centroids" (17 : Nat) "com/example/dipper/dipper/Centroids" "count" "J").before a0 Z = true := hw _ (List.mem_of_getElem? (i := 16) rfl)
theorem wd_17 {Z : State} {a0 : Array Value} (hw : ∀ d ∈ tables_1, d.before a0 Z = true) : (Jvm.Cond.laysFinal "com/example/dipper/dipper/Centroids" "com/example/dipper/dipper/Centroids" "count" "J").before a0 Z = true := hw _ (List.mem_of_getElem? (i := 17) rfl)
theorem wd_18 {Z : State} {a0 : Array Value} (hw : ∀ d ∈ tables_1, d.before a0 Z = true) : (Jvm.Cond.fieldLink "com/example/dipper/dipper/Centroids" (21 : Nat) "com/example/dipper/dipper/Centroids" "min" "D").before a0 Z = true := hw _ (List.mem_of_getElem? (i := 18) rfl)
theorem wd_19 {Z : State} {a0 : Array Value} (hw : ∀ d ∈ tables_1, d.before a0 Z = true) : (Jvm.Cond.laysFinal "com/example/dipper/dipper/Centroids" "com/example/dipper/dipper/Centroids" "min" "D").before a0 Z = true := hw _ (List.mem_of_getElem? (i := 19) rfl)
theorem wd_20 {Z : State} {a0 : Array Value} (hw : ∀ d ∈ tables_1, d.before a0 Z = true) : (Jvm.Cond.fieldLink "com/example/dipper/dipper/Centroids" (25 : Nat) "com/example/dipper/dipper/Centroids" "max" "D").before a0 Z = true := hw _ (List.mem_of_getElem? (i := 20) rfl)
theorem wd_21 {Z : State} {a0 : Array Value} (hw : ∀ d ∈ tables_1, d.before a0 Z = true) : (Jvm.Cond.laysFinal "com/example/dipper/dipper/Centroids" "com/example/dipper/dipper/Centroids" "max" "D").before a0 Z = true := hw _ (List.mem_of_getElem? (i := 21) rfl)
theorem wd_22 {Z : State} {a0 : Array Value} (hw : ∀ d ∈ tables_1, d.before a0 Z = true) : (Jvm.Cond.methodLink "com/example/dipper/dipper/CentroidsMeanAtPinLaw" (18 : Nat) ({ cls := "com/example/dipper/dipper/Centroids", name := "meanAt", desc := "(I)D" } : Jvm.MethodName)).before a0 Z = true := hw _ (List.mem_of_getElem? (i := 22) rfl)
theorem wd_23 {Z : State} {a0 : Array Value} (hw : ∀ d ∈ tables_1, d.before a0 Z = true) : (Jvm.Cond.declares ({ cls := "com/example/dipper/dipper/Centroids", name := "meanAt", desc := "(I)D" } : Jvm.MethodName)).before a0 Z = true := hw _ (List.mem_of_getElem? (i := 23) rfl)
theorem wd_24 {Z : State} {a0 : Array Value} (hw : ∀ d ∈ tables_1, d.before a0 Z = true) : (Jvm.Cond.instanceMethod ({ cls := "com/example/dipper/dipper/Centroids", name := "meanAt", desc := "(I)D" } : Jvm.MethodName)).before a0 Z = true := hw _ (List.mem_of_getElem? (i := 24) rfl)
theorem wd_25 {Z : State} {a0 : Array Value} (hw : ∀ d ∈ tables_1, d.before a0 Z = true) : (Jvm.Cond.selects "com/example/dipper/dipper/Centroids" ({ cls := "com/example/dipper/dipper/Centroids", name := "meanAt", desc := "(I)D" } : Jvm.MethodName) ({ cls := "com/example/dipper/dipper/Centroids", name := "meanAt", desc := "(I)D" } : Jvm.MethodName)).before a0 Z = true := hw _ (List.mem_of_getElem? (i := 25) rfl)
theorem wd_26 {Z : State} {a0 : Array Value} (hw : ∀ d ∈ tables_1, d.before a0 Z = true) : (Jvm.Cond.code ({ cls := "com/example/dipper/dipper/Centroids", name := "meanAt", desc := "(I)D" } : Jvm.MethodName) prog_4_method_10_code (2 : Nat) (Option.some Jvm.ClassFile.FieldType.double)).before a0 Z = true := hw _ (List.mem_of_getElem? (i := 26) rfl)
theorem wd_27 {Z : State} {a0 : Array Value} (hw : ∀ d ∈ tables_1, d.before a0 Z = true) : (Jvm.Cond.constantLong "com/example/dipper/dipper/CentroidsMeanAtPinLaw" (7 : Nat) (2 : Int64)).before a0 Z = true := hw _ (List.mem_of_getElem? (i := 27) rfl)
theorem wd_28 {Z : State} {a0 : Array Value} (hw : ∀ d ∈ tables_1, d.before a0 Z = true) : (Jvm.Cond.constantLong "com/example/dipper/dipper/CentroidsMeanAtPinLaw" (9 : Nat) (3 : Int64)).before a0 Z = true := hw _ (List.mem_of_getElem? (i := 28) rfl)
theorem la_Centroids {Z : State} {a0 : Array Value} (hw : ∀ d ∈ tables_1, d.before a0 Z = true) : LaidAll Z a0 "com/example/dipper/dipper/Centroids" [("com/example/dipper/dipper/Centroids", "means", "[D", .null), ("com/example/dipper/dipper/Centroids", "weights", "[J", .null), ("com/example/dipper/dipper/Centroids", "count", "J", .long 0), ("com/example/dipper/dipper/Centroids", "min", "D", .double 0), ("com/example/dipper/dipper/Centroids", "max", "D", .double 0)] := LaidAll.cons (Or.inr (wd_13 hw)) (t := (.array .double)) (by decide) rfl (LaidAll.cons (Or.inr (wd_15 hw)) (t := (.array .long)) (by decide) rfl (LaidAll.cons (Or.inr (wd_17 hw)) (t := .long) (by decide) rfl (LaidAll.cons (Or.inr (wd_19 hw)) (t := .double) (by decide) rfl (LaidAll.cons (Or.inr (wd_21 hw)) (t := .double) (by decide) rfl (LaidAll.nil)))))
theorem ef_1 (m : MethodId) (x0 : Addr) (x1 : Addr) (x2 : Addr) (x3 : Int64) (x4 : UInt64) (x5 : UInt64) : entryFrame m #[.ref x0, .ref x1, .ref x2, .long x3, .double x4, .double x5] 9 = mkF m 0 #[.val (.ref x0), .val (.ref x1), .val (.ref x2), .val (.long x3), .second, .val (.double x4), .second, .val (.double x5), .second] [] := by first | (simp [entryFrame, mkF, argsToLocals, Value.category, maxLocals]; done) | rfl
theorem d1_0 : decode prog_4_method_1_code 0 = .ok (.aload_n 0, 1) := by decide +kernel
theorem d1_1 : decode prog_4_method_1_code 1 = .ok (.invokespecial 3, 3) := by decide +kernel
theorem d1_4 : decode prog_4_method_1_code 4 = .ok (.aload_n 0, 1) := by decide +kernel
theorem d1_5 : decode prog_4_method_1_code 5 = .ok (.aload_n 1, 1) := by decide +kernel
theorem d1_6 : decode prog_4_method_1_code 6 = .ok (.putfield 9, 3) := by decide +kernel
theorem d1_9 : decode prog_4_method_1_code 9 = .ok (.aload_n 0, 1) := by decide +kernel
theorem d1_10 : decode prog_4_method_1_code 10 = .ok (.aload_n 2, 1) := by decide +kernel
theorem d1_11 : decode prog_4_method_1_code 11 = .ok (.putfield 13, 3) := by decide +kernel
theorem d1_14 : decode prog_4_method_1_code 14 = .ok (.aload_n 0, 1) := by decide +kernel
theorem d1_15 : decode prog_4_method_1_code 15 = .ok (.lload_n 3, 1) := by decide +kernel
theorem d1_16 : decode prog_4_method_1_code 16 = .ok (.putfield 17, 3) := by decide +kernel
theorem d1_19 : decode prog_4_method_1_code 19 = .ok (.aload_n 0, 1) := by decide +kernel
theorem d1_20 : decode prog_4_method_1_code 20 = .ok (.dload 5, 2) := by decide +kernel
theorem d1_22 : decode prog_4_method_1_code 22 = .ok (.putfield 21, 3) := by decide +kernel
theorem d1_25 : decode prog_4_method_1_code 25 = .ok (.aload_n 0, 1) := by decide +kernel
theorem d1_26 : decode prog_4_method_1_code 26 = .ok (.dload 7, 2) := by decide +kernel
theorem d1_28 : decode prog_4_method_1_code 28 = .ok (.putfield 25, 3) := by decide +kernel
theorem d1_31 : decode prog_4_method_1_code 31 = .ok (.return_, 1) := by decide +kernel
theorem pn_Centroids : plainName "com/example/dipper/dipper/Centroids" = true := by first | (simp [plainName, overriddenIn]; done) | decide +kernel
theorem ef_3 (m : MethodId) (x0 : Addr) (x1 : Int32) : entryFrame m #[.ref x0, .int x1] 2 = mkF m 0 #[.val (.ref x0), .val (.int x1)] [] := by first | (simp [entryFrame, mkF, argsToLocals, Value.category, maxLocals]; done) | rfl
theorem d3_0 : decode prog_4_method_10_code 0 = .ok (.iload_n 1, 1) := by decide +kernel
theorem d3_1 : decode prog_4_method_10_code 1 = .ok (.ifCond .ge 10, 3) := by decide +kernel
theorem d3_11 : decode prog_4_method_10_code 11 = .ok (.iload_n 1, 1) := by decide +kernel
theorem d3_12 : decode prog_4_method_10_code 12 = .ok (.aload_n 0, 1) := by decide +kernel
theorem d3_13 : decode prog_4_method_10_code 13 = .ok (.getfield 9, 3) := by decide +kernel
theorem d3_16 : decode prog_4_method_10_code 16 = .ok (.arraylength, 1) := by decide +kernel
theorem d3_17 : decode prog_4_method_10_code 17 = .ok (.if_icmp .lt 10, 3) := by decide +kernel
theorem d3_27 : decode prog_4_method_10_code 27 = .ok (.aload_n 0, 1) := by decide +kernel
theorem d3_28 : decode prog_4_method_10_code 28 = .ok (.getfield 9, 3) := by decide +kernel
theorem d3_31 : decode prog_4_method_10_code 31 = .ok (.iload_n 1, 1) := by decide +kernel
theorem d3_32 : decode prog_4_method_10_code 32 = .ok (.daload, 1) := by decide +kernel
theorem d3_33 : decode prog_4_method_10_code 33 = .ok (.dreturn, 1) := by decide +kernel
theorem d3_20 : decode prog_4_method_10_code 20 = .ok (.aload_n 0, 1) := by decide +kernel
theorem d3_21 : decode prog_4_method_10_code 21 = .ok (.getfield 25, 3) := by decide +kernel
theorem d3_24 : decode prog_4_method_10_code 24 = .ok (.goto 9, 3) := by decide +kernel
theorem d3_4 : decode prog_4_method_10_code 4 = .ok (.aload_n 0, 1) := by decide +kernel
theorem d3_5 : decode prog_4_method_10_code 5 = .ok (.getfield 21, 3) := by decide +kernel
theorem d3_8 : decode prog_4_method_10_code 8 = .ok (.goto 25, 3) := by decide +kernel
theorem ef_0 (m : MethodId) (x0 : Int32) (x1 : Int32) (x2 : Int32) (x3 : Int32) (x4 : Int32) : entryFrame m #[.int x0, .int x1, .int x2, .int x3, .int x4] maxLocals = mkF m 0 #[.val (.int x0), .val (.int x1), .val (.int x2), .val (.int x3), .val (.int x4), .unset, .unset, .unset, .unset, .unset, .unset, .unset, .unset, .unset, .unset, .unset, .unset, .unset] [] := by first | (simp [entryFrame, mkF, argsToLocals, Value.category, maxLocals]; done) | rfl
theorem pd_0 : parseMethodDescriptor "([D[JJDD)V" = some ⟨[(.array .double), (.array .long), .long, .double, .double], none⟩ := by decide +kernel
theorem pd_1 : parseMethodDescriptor "(I)D" = some ⟨[.int], some .double⟩ := by decide +kernel
theorem pn_CentroidsMeanAtPinLaw : plainName "com/example/dipper/dipper/CentroidsMeanAtPinLaw" = true := by first | (simp [plainName, overriddenIn]; done) | decide +kernel
set_option maxRecDepth 65536 in
set_option maxHeartbeats 40000000 in
theorem c_init (l : Launch) (Z : State) (a0 : Array Value) (hw : ∀ d ∈ tables_1, d.before a0 Z = true) (n0 : Nat) (a am aw : Addr) (cnt : Int64) (mn mx : UInt64) (h0 : Heap) (F : List HRow) (H00 : Hp Z n0 h0 ((a, ObC Z "com/example/dipper/dipper/Centroids" [("com/example/dipper/dipper/Centroids", "means", "[D", .null), ("com/example/dipper/dipper/Centroids", "weights", "[J", .null), ("com/example/dipper/dipper/Centroids", "count", "J", .long 0), ("com/example/dipper/dipper/Centroids", "min", "D", .double 0), ("com/example/dipper/dipper/Centroids", "max", "D", .double 0)]) :: F)) :
    Con l Z n0 ⟨"com/example/dipper/dipper/Centroids", "<init>", "([D[JJDD)V"⟩ [] prog_4_method_1_code 9 none ({ frames := 1, cells := 0, slots := 0, locals := 12 } : Room) #[.ref a, .ref am, .ref aw, .long cnt, .double mn, .double mx] h0 (fun v h => v = none ∧ Hp Z n0 h ((a, ObC Z "com/example/dipper/dipper/Centroids" [("com/example/dipper/dipper/Centroids", "means", "[D", .ref am), ("com/example/dipper/dipper/Centroids", "weights", "[J", .ref aw), ("com/example/dipper/dipper/Centroids", "count", "J", .long cnt), ("com/example/dipper/dipper/Centroids", "min", "D", .double mn), ("com/example/dipper/dipper/Centroids", "max", "D", .double mx)]) :: F)) := by
  refine con_of (plainFor_of_name pn_Centroids) ?_
  intro p e s m below meth c T0 W0 e0
  have H0 : Hp Z n0 T0.heap ((a, ObC Z "com/example/dipper/dipper/Centroids" [("com/example/dipper/dipper/Centroids", "means", "[D", .null), ("com/example/dipper/dipper/Centroids", "weights", "[J", .null), ("com/example/dipper/dipper/Centroids", "count", "J", .long 0), ("com/example/dipper/dipper/Centroids", "min", "D", .double 0), ("com/example/dipper/dipper/Centroids", "max", "D", .double 0)]) :: F) := e0 ▸ H00
  refine g_cast (ef_1 m a am aw cnt mn mx) ?_
  refine g_aloadN W0 d1_0 (pc' := 1) rfl rfl rfl ?_
  refine g_initO W0 (wd_9 hw) (wd_10 hw) (wd_11 hw) H0 rfl d1_1 (pc' := 4) rfl (by decide) (Wn := 0) (Nat.le_of_eq rfl) (by decide) ?_
  intro T1 W1 H1
  refine g_aloadN W1 d1_4 (pc' := 5) rfl rfl rfl ?_
  refine g_aloadN W1 d1_5 (pc' := 6) rfl rfl rfl ?_
  refine g_putf W1 (wd_12 hw) Via.refl (Or.inr ⟨(wd_13 hw), rfl, rfl⟩) (wd_4 hw) (ty := (.array .double)) (by decide) rfl rfl H1 (i := 0) rfl (jx := 0) rfl d1_6 (pc' := 9) rfl (L' := ((a, ObC Z "com/example/dipper/dipper/Centroids" [("com/example/dipper/dipper/Centroids", "means", "[D", .ref am), ("com/example/dipper/dipper/Centroids", "weights", "[J", .null), ("com/example/dipper/dipper/Centroids", "count", "J", .long 0), ("com/example/dipper/dipper/Centroids", "min", "D", .double 0), ("com/example/dipper/dipper/Centroids", "max", "D", .double 0)]) :: F)) rfl ?_
  intro T2 W2 H2
  refine g_aloadN W2 d1_9 (pc' := 10) rfl rfl rfl ?_
  refine g_aloadN W2 d1_10 (pc' := 11) rfl rfl rfl ?_
  refine g_putf W2 (wd_14 hw) Via.refl (Or.inr ⟨(wd_15 hw), rfl, rfl⟩) (wd_4 hw) (ty := (.array .long)) (by decide) rfl rfl H2 (i := 0) rfl (jx := 1) rfl d1_11 (pc' := 14) rfl (L' := ((a, ObC Z "com/example/dipper/dipper/Centroids" [("com/example/dipper/dipper/Centroids", "means", "[D", .ref am), ("com/example/dipper/dipper/Centroids", "weights", "[J", .ref aw), ("com/example/dipper/dipper/Centroids", "count", "J", .long 0), ("com/example/dipper/dipper/Centroids", "min", "D", .double 0), ("com/example/dipper/dipper/Centroids", "max", "D", .double 0)]) :: F)) rfl ?_
  intro T3 W3 H3
  refine g_aloadN W3 d1_14 (pc' := 15) rfl rfl rfl ?_
  refine g_lloadN W3 d1_15 (pc' := 16) rfl rfl ?_
  refine g_putf W3 (wd_16 hw) Via.refl (Or.inr ⟨(wd_17 hw), rfl, rfl⟩) (wd_4 hw) (ty := .long) (by decide) rfl rfl H3 (i := 0) rfl (jx := 2) rfl d1_16 (pc' := 19) rfl (L' := ((a, ObC Z "com/example/dipper/dipper/Centroids" [("com/example/dipper/dipper/Centroids", "means", "[D", .ref am), ("com/example/dipper/dipper/Centroids", "weights", "[J", .ref aw), ("com/example/dipper/dipper/Centroids", "count", "J", .long cnt), ("com/example/dipper/dipper/Centroids", "min", "D", .double 0), ("com/example/dipper/dipper/Centroids", "max", "D", .double 0)]) :: F)) rfl ?_
  intro T4 W4 H4
  refine g_aloadN W4 d1_19 (pc' := 20) rfl rfl rfl ?_
  refine g_dload W4 d1_20 (pc' := 22) rfl rfl ?_
  refine g_putf W4 (wd_18 hw) Via.refl (Or.inr ⟨(wd_19 hw), rfl, rfl⟩) (wd_4 hw) (ty := .double) (by decide) rfl rfl H4 (i := 0) rfl (jx := 3) rfl d1_22 (pc' := 25) rfl (L' := ((a, ObC Z "com/example/dipper/dipper/Centroids" [("com/example/dipper/dipper/Centroids", "means", "[D", .ref am), ("com/example/dipper/dipper/Centroids", "weights", "[J", .ref aw), ("com/example/dipper/dipper/Centroids", "count", "J", .long cnt), ("com/example/dipper/dipper/Centroids", "min", "D", .double mn), ("com/example/dipper/dipper/Centroids", "max", "D", .double 0)]) :: F)) rfl ?_
  intro T5 W5 H5
  refine g_aloadN W5 d1_25 (pc' := 26) rfl rfl rfl ?_
  refine g_dload W5 d1_26 (pc' := 28) rfl rfl ?_
  refine g_putf W5 (wd_20 hw) Via.refl (Or.inr ⟨(wd_21 hw), rfl, rfl⟩) (wd_4 hw) (ty := .double) (by decide) rfl rfl H5 (i := 0) rfl (jx := 4) rfl d1_28 (pc' := 31) rfl (L' := ((a, ObC Z "com/example/dipper/dipper/Centroids" [("com/example/dipper/dipper/Centroids", "means", "[D", .ref am), ("com/example/dipper/dipper/Centroids", "weights", "[J", .ref aw), ("com/example/dipper/dipper/Centroids", "count", "J", .long cnt), ("com/example/dipper/dipper/Centroids", "min", "D", .double mn), ("com/example/dipper/dipper/Centroids", "max", "D", .double mx)]) :: F)) rfl ?_
  intro T6 W6 H6
  exact g_return W6 d1_31 ⟨rfl, H6⟩ (by decide) (by decide)
set_option maxRecDepth 65536 in
set_option maxHeartbeats 40000000 in
theorem c_mean (l : Launch) (Z : State) (a0 : Array Value) (hw : ∀ d ∈ tables_1, d.before a0 Z = true) (n0 : Nat) (a am aw : Addr) (cnt : Int64) (mn mx : UInt64) (vs : List Value) (n j : Int32) (r : UInt64) (hlen : vs.length.toInt32 = n) (hr : (j < 0 → r = mn) ∧ (¬ j < 0 → ¬ j < n → r = mx) ∧ (¬ j < 0 → j < n → ∃ jx : Nat, j.toInt = (jx : Int) ∧ vs[jx]? = some (.double r))) (h0 : Heap) (F : List HRow) (H00 : Hp Z n0 h0 ((a, ObC Z "com/example/dipper/dipper/Centroids" [("com/example/dipper/dipper/Centroids", "means", "[D", .ref am), ("com/example/dipper/dipper/Centroids", "weights", "[J", .ref aw), ("com/example/dipper/dipper/Centroids", "count", "J", .long cnt), ("com/example/dipper/dipper/Centroids", "min", "D", .double mn), ("com/example/dipper/dipper/Centroids", "max", "D", .double mx)]) :: (am, ArC Z .double vs) :: F)) :
    Con l Z n0 ⟨"com/example/dipper/dipper/Centroids", "meanAt", "(I)D"⟩ [] prog_4_method_10_code 2 (some .double) ({ frames := 0, cells := 0, slots := 0, locals := 0 } : Room) #[.ref a, .int j] h0 (fun v h => v = some (.double r) ∧ Hp Z n0 h ((a, ObC Z "com/example/dipper/dipper/Centroids" [("com/example/dipper/dipper/Centroids", "means", "[D", .ref am), ("com/example/dipper/dipper/Centroids", "weights", "[J", .ref aw), ("com/example/dipper/dipper/Centroids", "count", "J", .long cnt), ("com/example/dipper/dipper/Centroids", "min", "D", .double mn), ("com/example/dipper/dipper/Centroids", "max", "D", .double mx)]) :: (am, ArC Z .double vs) :: F)) := by
  refine con_of (plainFor_of_name pn_Centroids) ?_
  intro p e s m below meth c T0 W0 e0
  have H0 : Hp Z n0 T0.heap ((a, ObC Z "com/example/dipper/dipper/Centroids" [("com/example/dipper/dipper/Centroids", "means", "[D", .ref am), ("com/example/dipper/dipper/Centroids", "weights", "[J", .ref aw), ("com/example/dipper/dipper/Centroids", "count", "J", .long cnt), ("com/example/dipper/dipper/Centroids", "min", "D", .double mn), ("com/example/dipper/dipper/Centroids", "max", "D", .double mx)]) :: (am, ArC Z .double vs) :: F) := e0 ▸ H00
  refine g_cast (ef_3 m a j) ?_
  refine g_iloadN W0 d3_0 (pc' := 1) rfl rfl ?_
  refine g_if W0 d3_1 (pcy := 11) (by decide) (pc' := 4) rfl (fun (c1 : ¬ j < (0 : Int32)) => ?_) (fun (c1 : ¬ ¬ j < (0 : Int32)) => ?_)
  · refine g_iloadN W0 d3_11 (pc' := 12) rfl rfl ?_
    refine g_aloadN W0 d3_12 (pc' := 13) rfl rfl rfl ?_
    refine g_getf W0 (wd_12 hw) Via.refl H0 (i := 0) rfl (jx := 0) rfl d3_13 (pc' := 16) rfl ?_
    intro T2 W2 H2
    refine g_arrlen W2 H2 (i := 1) rfl (x := n) hlen d3_16 (pc' := 17) rfl ?_
    refine g_icmp W2 d3_17 (pcy := 27) (by decide) (pc' := 20) rfl (fun (c3 : j < n) => ?_) (fun (c3 : ¬ j < n) => ?_)
    · obtain ⟨jx, hj, hv⟩ := hr.2.2 c1 c3
      refine g_aloadN W2 d3_27 (pc' := 28) rfl rfl rfl ?_
      refine g_getf W2 (wd_12 hw) Via.refl H2 (i := 0) rfl (jx := 0) rfl d3_28 (pc' := 31) rfl ?_
      intro T4 W4 H4
      refine g_iloadN W4 d3_31 (pc' := 32) rfl rfl ?_
      refine g_daload W4 H4 (i := 1) rfl (jx := jx) hj (v := .double r) hv d3_32 (pc' := 33) rfl ?_
      exact g_dreturn W4 d3_33 ⟨rfl, H4⟩ (by decide) (by decide)
    · refine g_aloadN W2 d3_20 (pc' := 21) rfl rfl rfl ?_
      refine g_getf W2 (wd_20 hw) Via.refl H2 (i := 0) rfl (jx := 4) rfl d3_21 (pc' := 24) rfl ?_
      intro T5 W5 H5
      refine g_goto W5 d3_24 (pc' := 33) (by decide) ?_
      exact g_dreturn W5 d3_33 ⟨by rw [hr.2.1 c1 c3], H5⟩ (by decide) (by decide)
  · replace c1 := Classical.not_not.mp c1
    replace c1 : j < 0 := c1
    refine g_aloadN W0 d3_4 (pc' := 5) rfl rfl rfl ?_
    refine g_getf W0 (wd_18 hw) Via.refl H0 (i := 0) rfl (jx := 3) rfl d3_5 (pc' := 8) rfl ?_
    intro T6 W6 H6
    refine g_goto W6 d3_8 (pc' := 33) (by decide) ?_
    exact g_dreturn W6 d3_33 ⟨by rw [hr.1 c1], H6⟩ (by decide) (by decide)
set_option maxRecDepth 65536 in
set_option maxHeartbeats 40000000 in
theorem law_con (l : Launch) (Z : State) (a0 : Array Value) (hw : ∀ d ∈ tables_1, d.before a0 Z = true) (n0 : Nat) (p0 p1 p2 p3 p4 : Int32) (h0 : Heap) (H00 : Hp Z n0 h0 []) :
    Con l Z n0 x tables_1 code maxLocals ret room_1 #[.int p0, .int p1, .int p2, .int p3, .int p4] h0 (fun v _ => v = some (.int 1)) := by
  refine con_of (plainFor_of_name pn_CentroidsMeanAtPinLaw) ?_
  intro p e s m below meth c T0 W0 e0
  have H0 : Hp Z n0 T0.heap [] := e0 ▸ H00
  refine g_cast (ef_0 m p0 p1 p2 p3 p4) ?_
  refine g_iloadN W0 at_0 (pc' := 1) rfl rfl ?_
  refine g_iconst W0 at_1 (pc' := 2) rfl (v := (3 : Int32)) (by decide) ?_
  refine g_iand W0 at_2 (pc' := 3) rfl rfl ?_
  rcases and3 p0 with hn | hn | hn | hn
  · rw [hn]
    refine g_istore W0 at_3 (pc' := 5) rfl (ls' := #[.val (.int p0), .val (.int p1), .val (.int p2), .val (.int p3), .val (.int p4), .val (.int (0 : Int32)), .unset, .unset, .unset, .unset, .unset, .unset, .unset, .unset, .unset, .unset, .unset, .unset]) rfl ?_
    refine g_iloadN W0 at_5 (pc' := 6) rfl rfl ?_
    refine g_sipush W0 at_6 (pc' := 9) rfl (v := (255 : Int32)) (by decide) ?_
    refine g_iand W0 at_9 (pc' := 10) rfl rfl ?_
    refine g_i2l W0 at_10 (pc' := 11) rfl rfl ?_
    refine g_lconst W0 at_11 (pc' := 12) rfl (v := (1 : Int64)) (by decide) ?_
    refine g_ladd W0 at_12 (pc' := 13) rfl rfl ?_
    refine g_lstore W0 at_13 (pc' := 15) rfl (ls' := #[.val (.int p0), .val (.int p1), .val (.int p2), .val (.int p3), .val (.int p4), .val (.int (0 : Int32)), .val (.long ((p2 &&& (255 : Int32)).toInt64 + (1 : Int64))), .second, .unset, .unset, .unset, .unset, .unset, .unset, .unset, .unset, .unset, .unset]) rfl ?_
    refine g_iload W0 at_15 (pc' := 17) rfl rfl ?_
    refine g_newarr (aty := .double) W0 (wd_0 hw) H0 (by decide) (vs := []) rfl (cap := 0) (Nat.le_of_eq rfl) (by decide) at_17 (pc' := 19) rfl (kc' := 1) (ks' := 0) rfl rfl (by decide) (by decide) ?_
    intro T1 a1 W1 H1
    replace H1 : Hp Z n0 T1.heap [(a1, ArC Z .double [])] := H1
    refine g_astore W1 at_19 (pc' := 21) rfl rfl (ls' := #[.val (.int p0), .val (.int p1), .val (.int p2), .val (.int p3), .val (.int p4), .val (.int (0 : Int32)), .val (.long ((p2 &&& (255 : Int32)).toInt64 + (1 : Int64))), .second, .val (.ref a1), .unset, .unset, .unset, .unset, .unset, .unset, .unset, .unset, .unset]) rfl ?_
    refine g_iload W1 at_21 (pc' := 23) rfl rfl ?_
    refine g_newarr (aty := .long) W1 (wd_1 hw) H1 (by decide) (vs := []) rfl (cap := 0) (Nat.le_of_eq rfl) (by decide) at_23 (pc' := 25) rfl (kc' := 2) (ks' := 0) rfl rfl (by decide) (by decide) ?_
    intro T2 a2 W2 H2
    replace H2 : Hp Z n0 T2.heap [(a2, ArC Z .long []), (a1, ArC Z .double [])] := H2
    refine g_astore W2 at_25 (pc' := 27) rfl rfl (ls' := #[.val (.int p0), .val (.int p1), .val (.int p2), .val (.int p3), .val (.int p4), .val (.int (0 : Int32)), .val (.long ((p2 &&& (255 : Int32)).toInt64 + (1 : Int64))), .second, .val (.ref a1), .val (.ref a2), .unset, .unset, .unset, .unset, .unset, .unset, .unset, .unset]) rfl ?_
    refine g_iload W2 at_27 (pc' := 29) rfl rfl ?_
    refine g_if W2 at_29 (pcy := 47) (by decide) (pc' := 32) rfl (fun _ => ?_) (fun (h : ¬ ¬ (0 : Int32) < (0 : Int32)) => absurd h (by decide))
    refine g_iload W2 at_47 (pc' := 49) rfl rfl ?_
    refine g_iconst W2 at_49 (pc' := 50) rfl (v := (1 : Int32)) (by decide) ?_
    refine g_icmp W2 at_50 (pcy := 72) (by decide) (pc' := 53) rfl (fun _ => ?_) (fun (h : ¬ ¬ (1 : Int32) < (0 : Int32)) => absurd h (by decide))
    refine g_iload W2 at_72 (pc' := 74) rfl rfl ?_
    refine g_iconst W2 at_74 (pc' := 75) rfl (v := (2 : Int32)) (by decide) ?_
    refine g_icmp W2 at_75 (pcy := 97) (by decide) (pc' := 78) rfl (fun _ => ?_) (fun (h : ¬ ¬ (2 : Int32) < (0 : Int32)) => absurd h (by decide))
    refine g_iloadN W2 at_97 (pc' := 98) rfl rfl ?_
    refine g_i2d W2 at_98 (pc' := 99) rfl rfl ?_
    refine g_dstore W2 at_99 (pc' := 101) rfl (ls' := #[.val (.int p0), .val (.int p1), .val (.int p2), .val (.int p3), .val (.int p4), .val (.int (0 : Int32)), .val (.long ((p2 &&& (255 : Int32)).toInt64 + (1 : Int64))), .second, .val (.ref a1), .val (.ref a2), .val (.double (FP.i2d p1)), .second, .unset, .unset, .unset, .unset, .unset, .unset]) rfl ?_
    refine g_iloadN W2 at_101 (pc' := 102) rfl rfl ?_
    refine g_i2l W2 at_102 (pc' := 103) rfl rfl ?_
    refine g_ldc2Long W2 (wd_2 hw) at_103 (pc' := 106) rfl ?_
    refine g_lload W2 at_106 (pc' := 108) rfl rfl ?_
    refine g_lmul W2 at_108 (pc' := 109) rfl rfl ?_
    refine g_ladd W2 at_109 (pc' := 110) rfl rfl ?_
    refine g_l2d W2 at_110 (pc' := 111) rfl rfl ?_
    refine g_dstore W2 at_111 (pc' := 113) rfl (ls' := #[.val (.int p0), .val (.int p1), .val (.int p2), .val (.int p3), .val (.int p4), .val (.int (0 : Int32)), .val (.long ((p2 &&& (255 : Int32)).toInt64 + (1 : Int64))), .second, .val (.ref a1), .val (.ref a2), .val (.double (FP.i2d p1)), .second, .val (.double (FP.l2d (p1.toInt64 + ((4 : Int64) * ((p2 &&& (255 : Int32)).toInt64 + (1 : Int64)))))), .second, .unset, .unset, .unset, .unset]) rfl ?_
    refine g_new W2 (wd_3 hw) (wd_4 hw) (wd_5 hw) (la_Centroids hw) (by decide) H2 at_113 (pc' := 116) rfl (kc' := 3) (ks' := 5) rfl rfl (by decide) (by decide) ?_
    intro T3 a3 W3 H3
    refine g_dup W3 at_116 (pc' := 117) rfl rfl ?_
    refine g_aload W3 at_117 (pc' := 119) rfl rfl rfl ?_
    refine g_aload W3 at_119 (pc' := 121) rfl rfl rfl ?_
    refine g_iload W3 at_121 (pc' := 123) rfl rfl ?_
    refine g_i2l W3 at_123 (pc' := 124) rfl rfl ?_
    refine g_dload W3 at_124 (pc' := 126) rfl rfl ?_
    refine g_dload W3 at_126 (pc' := 128) rfl rfl ?_
    refine g_callI W3 (argsL := [.ref a1, .ref a2, .long (0 : Int32).toInt64, .double (FP.i2d p1), .double (FP.l2d (p1.toInt64 + ((4 : Int64) * ((p2 &&& (255 : Int32)).toInt64 + (1 : Int64)))))]) (st := [.ref a3]) rfl (wd_6 hw) (wd_7 hw) (wd_5 hw) (wd_8 hw) (by decide) (a := a3) (c_init l Z a0 hw n0 a3 a1 a2 (0 : Int32).toInt64 (FP.i2d p1) (FP.l2d (p1.toInt64 + ((4 : Int64) * ((p2 &&& (255 : Int32)).toInt64 + (1 : Int64))))) _ _ H3) pd_0 rfl rfl rfl at_128 (pc' := 131) rfl (by decide) (Wn := 1) (Nat.le_of_eq rfl) (by decide) (kc' := 3) (ks' := 5) rfl rfl (by decide) (by decide) ?_
    intro T4 v4 W4 hp4
    obtain ⟨rfl, H4⟩ := hp4
    show Goes p e below _ (T4.setTop (mkF m 131 #[.val (.int p0), .val (.int p1), .val (.int p2), .val (.int p3), .val (.int p4), .val (.int (0 : Int32)), .val (.long ((p2 &&& (255 : Int32)).toInt64 + (1 : Int64))), .second, .val (.ref a1), .val (.ref a2), .val (.double (FP.i2d p1)), .second, .val (.double (FP.l2d (p1.toInt64 + ((4 : Int64) * ((p2 &&& (255 : Int32)).toInt64 + (1 : Int64)))))), .second, .unset, .unset, .unset, .unset] [.ref a3]))
    refine g_astore W4 at_131 (pc' := 133) rfl rfl (ls' := #[.val (.int p0), .val (.int p1), .val (.int p2), .val (.int p3), .val (.int p4), .val (.int (0 : Int32)), .val (.long ((p2 &&& (255 : Int32)).toInt64 + (1 : Int64))), .second, .val (.ref a1), .val (.ref a2), .val (.double (FP.i2d p1)), .second, .val (.double (FP.l2d (p1.toInt64 + ((4 : Int64) * ((p2 &&& (255 : Int32)).toInt64 + (1 : Int64)))))), .second, .val (.ref a3), .unset, .unset, .unset]) rfl ?_
    refine g_iload W4 at_133 (pc' := 135) rfl rfl ?_
    refine g_iconst W4 at_135 (pc' := 136) rfl (v := (1 : Int32)) (by decide) ?_
    refine g_iand W4 at_136 (pc' := 137) rfl rfl ?_
    have J : ∀ (TJJ : State) (j : Int32), Wk Z x code maxLocals ret n0 p l e room_1 s m #[.int p0, .int p1, .int p2, .int p3, .int p4] below meth c TJJ 3 5 → Hp Z n0 TJJ.heap [(a3, ObC Z "com/example/dipper/dipper/Centroids" [("com/example/dipper/dipper/Centroids", "means", "[D", .ref a1), ("com/example/dipper/dipper/Centroids", "weights", "[J", .ref a2), ("com/example/dipper/dipper/Centroids", "count", "J", .long (0 : Int32).toInt64), ("com/example/dipper/dipper/Centroids", "min", "D", .double (FP.i2d p1)), ("com/example/dipper/dipper/Centroids", "max", "D", .double (FP.l2d (p1.toInt64 + ((4 : Int64) * ((p2 &&& (255 : Int32)).toInt64 + (1 : Int64))))))]), (a2, ArC Z .long []), (a1, ArC Z .double [])] → Goes p e below (En s n0 (Room.cells room_1) (Room.slots room_1) (fun v _ => v = some (.int 1))) (TJJ.setTop (mkF m 150 #[.val (.int p0), .val (.int p1), .val (.int p2), .val (.int p3), .val (.int p4), .val (.int (0 : Int32)), .val (.long ((p2 &&& (255 : Int32)).toInt64 + (1 : Int64))), .second, .val (.ref a1), .val (.ref a2), .val (.double (FP.i2d p1)), .second, .val (.double (FP.l2d (p1.toInt64 + ((4 : Int64) * ((p2 &&& (255 : Int32)).toInt64 + (1 : Int64)))))), .second, .val (.ref a3), .unset, .unset, .unset] [.int j])) := by
      intro TJJ j WJJ HJJ
      refine g_istore WJJ at_150 (pc' := 152) rfl (ls' := #[.val (.int p0), .val (.int p1), .val (.int p2), .val (.int p3), .val (.int p4), .val (.int (0 : Int32)), .val (.long ((p2 &&& (255 : Int32)).toInt64 + (1 : Int64))), .second, .val (.ref a1), .val (.ref a2), .val (.double (FP.i2d p1)), .second, .val (.double (FP.l2d (p1.toInt64 + ((4 : Int64) * ((p2 &&& (255 : Int32)).toInt64 + (1 : Int64)))))), .second, .val (.ref a3), .val (.int j), .unset, .unset]) rfl ?_
      refine g_iload WJJ at_152 (pc' := 154) rfl rfl ?_
      refine g_if WJJ at_154 (pcy := 164) (by decide) (pc' := 157) rfl (fun (c5 : ¬ j < (0 : Int32)) => ?_) (fun (c5 : ¬ ¬ j < (0 : Int32)) => ?_)
      · refine g_iload WJJ at_164 (pc' := 166) rfl rfl ?_
        refine g_iload WJJ at_166 (pc' := 168) rfl rfl ?_
        refine g_icmp WJJ at_168 (pcy := 178) (by decide) (pc' := 171) rfl (fun (c6 : j < (0 : Int32)) => ?_) (fun (c6 : ¬ j < (0 : Int32)) => ?_)
        · exact lt0 c5 c6
        · refine g_dload WJJ at_171 (pc' := 173) rfl rfl ?_
          refine g_dstore WJJ at_173 (pc' := 175) rfl (ls' := #[.val (.int p0), .val (.int p1), .val (.int p2), .val (.int p3), .val (.int p4), .val (.int (0 : Int32)), .val (.long ((p2 &&& (255 : Int32)).toInt64 + (1 : Int64))), .second, .val (.ref a1), .val (.ref a2), .val (.double (FP.i2d p1)), .second, .val (.double (FP.l2d (p1.toInt64 + ((4 : Int64) * ((p2 &&& (255 : Int32)).toInt64 + (1 : Int64)))))), .second, .val (.ref a3), .val (.int j), .val (.double (FP.l2d (p1.toInt64 + ((4 : Int64) * ((p2 &&& (255 : Int32)).toInt64 + (1 : Int64)))))), .second]) rfl ?_
          refine g_goto WJJ at_175 (pc' := 192) (by decide) ?_
          refine g_aload WJJ at_192 (pc' := 194) rfl rfl rfl ?_
          refine g_iload WJJ at_194 (pc' := 196) rfl rfl ?_
          have H7f : Hp Z n0 TJJ.heap [(a1, ArC Z .double []), (a3, ObC Z "com/example/dipper/dipper/Centroids" [("com/example/dipper/dipper/Centroids", "means", "[D", .ref a1), ("com/example/dipper/dipper/Centroids", "weights", "[J", .ref a2), ("com/example/dipper/dipper/Centroids", "count", "J", .long (0 : Int32).toInt64), ("com/example/dipper/dipper/Centroids", "min", "D", .double (FP.i2d p1)), ("com/example/dipper/dipper/Centroids", "max", "D", .double (FP.l2d (p1.toInt64 + ((4 : Int64) * ((p2 &&& (255 : Int32)).toInt64 + (1 : Int64))))))]), (a2, ArC Z .long [])] := HJJ.front (i := 2) rfl rfl
          have H8f : Hp Z n0 TJJ.heap [(a3, ObC Z "com/example/dipper/dipper/Centroids" [("com/example/dipper/dipper/Centroids", "means", "[D", .ref a1), ("com/example/dipper/dipper/Centroids", "weights", "[J", .ref a2), ("com/example/dipper/dipper/Centroids", "count", "J", .long (0 : Int32).toInt64), ("com/example/dipper/dipper/Centroids", "min", "D", .double (FP.i2d p1)), ("com/example/dipper/dipper/Centroids", "max", "D", .double (FP.l2d (p1.toInt64 + ((4 : Int64) * ((p2 &&& (255 : Int32)).toInt64 + (1 : Int64))))))]), (a1, ArC Z .double []), (a2, ArC Z .long [])] := H7f.front (i := 1) rfl rfl
          refine g_callV WJJ (argsL := [.int j]) (st := []) (wd_22 hw) (wd_23 hw) (wd_25 hw) (wd_24 hw) (wd_5 hw) (wd_26 hw) (by decide) (a := a3) H8f (i := 0) rfl (c_mean l Z a0 hw n0 a3 a1 a2 (0 : Int32).toInt64 (FP.i2d p1) (FP.l2d (p1.toInt64 + ((4 : Int64) * ((p2 &&& (255 : Int32)).toInt64 + (1 : Int64))))) [] (0 : Int32) j (FP.l2d (p1.toInt64 + ((4 : Int64) * ((p2 &&& (255 : Int32)).toInt64 + (1 : Int64))))) rfl ⟨fun q => absurd q c5, fun _ _ => rfl, fun _ q => absurd q c6⟩ _ _ H8f) pd_1 rfl rfl rfl at_196 (pc' := 199) rfl (by decide) (Wn := 0) (Nat.le_of_eq rfl) (by decide) (kc' := 3) (ks' := 5) rfl rfl (by decide) (by decide) ?_
          intro T9 v9 W9 hp9
          obtain ⟨rfl, H9⟩ := hp9
          show Goes p e below _ (T9.setTop (mkF m 199 #[.val (.int p0), .val (.int p1), .val (.int p2), .val (.int p3), .val (.int p4), .val (.int (0 : Int32)), .val (.long ((p2 &&& (255 : Int32)).toInt64 + (1 : Int64))), .second, .val (.ref a1), .val (.ref a2), .val (.double (FP.i2d p1)), .second, .val (.double (FP.l2d (p1.toInt64 + ((4 : Int64) * ((p2 &&& (255 : Int32)).toInt64 + (1 : Int64)))))), .second, .val (.ref a3), .val (.int j), .val (.double (FP.l2d (p1.toInt64 + ((4 : Int64) * ((p2 &&& (255 : Int32)).toInt64 + (1 : Int64)))))), .second] [.double (FP.l2d (p1.toInt64 + ((4 : Int64) * ((p2 &&& (255 : Int32)).toInt64 + (1 : Int64)))))]))
          refine g_dload W9 at_199 (pc' := 201) rfl rfl ?_
          refine g_dcmp W9 at_201 (pc' := 202) rfl rfl ?_
          rw [show (cmpValue (FP.dcmp (FP.l2d (p1.toInt64 + ((4 : Int64) * ((p2 &&& (255 : Int32)).toInt64 + (1 : Int64))))) (FP.l2d (p1.toInt64 + ((4 : Int64) * ((p2 &&& (255 : Int32)).toInt64 + (1 : Int64)))))) .l) = (0 : Int32) from dcmpV_eq rfl (l2d_fin _).noNaN .l]
          refine g_if W9 at_202 (pcy := 209) (by decide) (pc' := 205) rfl (fun (h : ¬ (0 : Int32) = (0 : Int32)) => absurd h (by decide)) (fun _ => ?_)
          refine g_iconst W9 at_205 (pc' := 206) rfl (v := (1 : Int32)) (by decide) ?_
          refine g_goto W9 at_206 (pc' := 210) (by decide) ?_
          exact g_zreturn W9 (by decide) at_210 rfl (by decide) (by decide)
      · replace c5 := Classical.not_not.mp c5
        refine g_dload WJJ at_157 (pc' := 159) rfl rfl ?_
        refine g_dstore WJJ at_159 (pc' := 161) rfl (ls' := #[.val (.int p0), .val (.int p1), .val (.int p2), .val (.int p3), .val (.int p4), .val (.int (0 : Int32)), .val (.long ((p2 &&& (255 : Int32)).toInt64 + (1 : Int64))), .second, .val (.ref a1), .val (.ref a2), .val (.double (FP.i2d p1)), .second, .val (.double (FP.l2d (p1.toInt64 + ((4 : Int64) * ((p2 &&& (255 : Int32)).toInt64 + (1 : Int64)))))), .second, .val (.ref a3), .val (.int j), .val (.double (FP.i2d p1)), .second]) rfl ?_
        refine g_goto WJJ at_161 (pc' := 192) (by decide) ?_
        refine g_aload WJJ at_192 (pc' := 194) rfl rfl rfl ?_
        refine g_iload WJJ at_194 (pc' := 196) rfl rfl ?_
        have H10f : Hp Z n0 TJJ.heap [(a1, ArC Z .double []), (a3, ObC Z "com/example/dipper/dipper/Centroids" [("com/example/dipper/dipper/Centroids", "means", "[D", .ref a1), ("com/example/dipper/dipper/Centroids", "weights", "[J", .ref a2), ("com/example/dipper/dipper/Centroids", "count", "J", .long (0 : Int32).toInt64), ("com/example/dipper/dipper/Centroids", "min", "D", .double (FP.i2d p1)), ("com/example/dipper/dipper/Centroids", "max", "D", .double (FP.l2d (p1.toInt64 + ((4 : Int64) * ((p2 &&& (255 : Int32)).toInt64 + (1 : Int64))))))]), (a2, ArC Z .long [])] := HJJ.front (i := 2) rfl rfl
        have H11f : Hp Z n0 TJJ.heap [(a3, ObC Z "com/example/dipper/dipper/Centroids" [("com/example/dipper/dipper/Centroids", "means", "[D", .ref a1), ("com/example/dipper/dipper/Centroids", "weights", "[J", .ref a2), ("com/example/dipper/dipper/Centroids", "count", "J", .long (0 : Int32).toInt64), ("com/example/dipper/dipper/Centroids", "min", "D", .double (FP.i2d p1)), ("com/example/dipper/dipper/Centroids", "max", "D", .double (FP.l2d (p1.toInt64 + ((4 : Int64) * ((p2 &&& (255 : Int32)).toInt64 + (1 : Int64))))))]), (a1, ArC Z .double []), (a2, ArC Z .long [])] := H10f.front (i := 1) rfl rfl
        refine g_callV WJJ (argsL := [.int j]) (st := []) (wd_22 hw) (wd_23 hw) (wd_25 hw) (wd_24 hw) (wd_5 hw) (wd_26 hw) (by decide) (a := a3) H11f (i := 0) rfl (c_mean l Z a0 hw n0 a3 a1 a2 (0 : Int32).toInt64 (FP.i2d p1) (FP.l2d (p1.toInt64 + ((4 : Int64) * ((p2 &&& (255 : Int32)).toInt64 + (1 : Int64))))) [] (0 : Int32) j (FP.i2d p1) rfl ⟨fun _ => rfl, fun q => absurd c5 q, fun q => absurd c5 q⟩ _ _ H11f) pd_1 rfl rfl rfl at_196 (pc' := 199) rfl (by decide) (Wn := 0) (Nat.le_of_eq rfl) (by decide) (kc' := 3) (ks' := 5) rfl rfl (by decide) (by decide) ?_
        intro T12 v12 W12 hp12
        obtain ⟨rfl, H12⟩ := hp12
        show Goes p e below _ (T12.setTop (mkF m 199 #[.val (.int p0), .val (.int p1), .val (.int p2), .val (.int p3), .val (.int p4), .val (.int (0 : Int32)), .val (.long ((p2 &&& (255 : Int32)).toInt64 + (1 : Int64))), .second, .val (.ref a1), .val (.ref a2), .val (.double (FP.i2d p1)), .second, .val (.double (FP.l2d (p1.toInt64 + ((4 : Int64) * ((p2 &&& (255 : Int32)).toInt64 + (1 : Int64)))))), .second, .val (.ref a3), .val (.int j), .val (.double (FP.i2d p1)), .second] [.double (FP.i2d p1)]))
        refine g_dload W12 at_199 (pc' := 201) rfl rfl ?_
        refine g_dcmp W12 at_201 (pc' := 202) rfl rfl ?_
        rw [show (cmpValue (FP.dcmp (FP.i2d p1) (FP.i2d p1)) .l) = (0 : Int32) from dcmpV_eq rfl (i2d_fin _).noNaN .l]
        refine g_if W12 at_202 (pcy := 209) (by decide) (pc' := 205) rfl (fun (h : ¬ (0 : Int32) = (0 : Int32)) => absurd h (by decide)) (fun _ => ?_)
        refine g_iconst W12 at_205 (pc' := 206) rfl (v := (1 : Int32)) (by decide) ?_
        refine g_goto W12 at_206 (pc' := 210) (by decide) ?_
        exact g_zreturn W12 (by decide) at_210 rfl (by decide) (by decide)
    refine g_if W4 at_137 (pcy := 144) (by decide) (pc' := 140) rfl (fun (c13 : (p4 &&& (1 : Int32)) = (0 : Int32)) => ?_) (fun (c13 : ¬ (p4 &&& (1 : Int32)) = (0 : Int32)) => ?_)
    · refine g_iloadN W4 at_144 (pc' := 145) rfl rfl ?_
      refine g_bipush W4 at_145 (pc' := 147) rfl (v := (6 : Int32)) (by decide) ?_
      refine g_irem W4 at_147 (pc' := 148) rfl (by decide) rfl ?_
      refine g_iconst W4 at_148 (pc' := 149) rfl (v := (1 : Int32)) (by decide) ?_
      refine g_isub W4 at_149 (pc' := 150) rfl rfl ?_
      exact J _ _ W4 H4
    · refine g_iloadN W4 at_140 (pc' := 141) rfl rfl ?_
      refine g_goto W4 at_141 (pc' := 150) (by decide) ?_
      exact J _ _ W4 H4
  · rw [hn]
    refine g_istore W0 at_3 (pc' := 5) rfl (ls' := #[.val (.int p0), .val (.int p1), .val (.int p2), .val (.int p3), .val (.int p4), .val (.int (1 : Int32)), .unset, .unset, .unset, .unset, .unset, .unset, .unset, .unset, .unset, .unset, .unset, .unset]) rfl ?_
    refine g_iloadN W0 at_5 (pc' := 6) rfl rfl ?_
    refine g_sipush W0 at_6 (pc' := 9) rfl (v := (255 : Int32)) (by decide) ?_
    refine g_iand W0 at_9 (pc' := 10) rfl rfl ?_
    refine g_i2l W0 at_10 (pc' := 11) rfl rfl ?_
    refine g_lconst W0 at_11 (pc' := 12) rfl (v := (1 : Int64)) (by decide) ?_
    refine g_ladd W0 at_12 (pc' := 13) rfl rfl ?_
    refine g_lstore W0 at_13 (pc' := 15) rfl (ls' := #[.val (.int p0), .val (.int p1), .val (.int p2), .val (.int p3), .val (.int p4), .val (.int (1 : Int32)), .val (.long ((p2 &&& (255 : Int32)).toInt64 + (1 : Int64))), .second, .unset, .unset, .unset, .unset, .unset, .unset, .unset, .unset, .unset, .unset]) rfl ?_
    refine g_iload W0 at_15 (pc' := 17) rfl rfl ?_
    refine g_newarr (aty := .double) W0 (wd_0 hw) H0 (by decide) (vs := [.double 0]) rfl (cap := 1) (Nat.le_of_eq rfl) (by decide) at_17 (pc' := 19) rfl (kc' := 1) (ks' := 1) rfl rfl (by decide) (by decide) ?_
    intro T14 a14 W14 H14
    replace H14 : Hp Z n0 T14.heap [(a14, ArC Z .double [.double 0])] := H14
    refine g_astore W14 at_19 (pc' := 21) rfl rfl (ls' := #[.val (.int p0), .val (.int p1), .val (.int p2), .val (.int p3), .val (.int p4), .val (.int (1 : Int32)), .val (.long ((p2 &&& (255 : Int32)).toInt64 + (1 : Int64))), .second, .val (.ref a14), .unset, .unset, .unset, .unset, .unset, .unset, .unset, .unset, .unset]) rfl ?_
    refine g_iload W14 at_21 (pc' := 23) rfl rfl ?_
    refine g_newarr (aty := .long) W14 (wd_1 hw) H14 (by decide) (vs := [.long 0]) rfl (cap := 1) (Nat.le_of_eq rfl) (by decide) at_23 (pc' := 25) rfl (kc' := 2) (ks' := 2) rfl rfl (by decide) (by decide) ?_
    intro T15 a15 W15 H15
    replace H15 : Hp Z n0 T15.heap [(a15, ArC Z .long [.long 0]), (a14, ArC Z .double [.double 0])] := H15
    refine g_astore W15 at_25 (pc' := 27) rfl rfl (ls' := #[.val (.int p0), .val (.int p1), .val (.int p2), .val (.int p3), .val (.int p4), .val (.int (1 : Int32)), .val (.long ((p2 &&& (255 : Int32)).toInt64 + (1 : Int64))), .second, .val (.ref a14), .val (.ref a15), .unset, .unset, .unset, .unset, .unset, .unset, .unset, .unset]) rfl ?_
    refine g_iload W15 at_27 (pc' := 29) rfl rfl ?_
    refine g_if W15 at_29 (pcy := 47) (by decide) (pc' := 32) rfl (fun (h : ¬ (0 : Int32) < (1 : Int32)) => absurd h (by decide)) (fun _ => ?_)
    refine g_aload W15 at_32 (pc' := 34) rfl rfl rfl ?_
    refine g_iconst W15 at_34 (pc' := 35) rfl (v := (0 : Int32)) (by decide) ?_
    refine g_iloadN W15 at_35 (pc' := 36) rfl rfl ?_
    refine g_i2l W15 at_36 (pc' := 37) rfl rfl ?_
    refine g_lload W15 at_37 (pc' := 39) rfl rfl ?_
    refine g_ladd W15 at_39 (pc' := 40) rfl rfl ?_
    refine g_l2d W15 at_40 (pc' := 41) rfl rfl ?_
    refine g_dastore W15 H15 (i := 1) rfl (jx := 0) (by decide) (by exact (by decide : 0 < 1)) at_41 (pc' := 42) rfl (L' := [(a15, ArC Z .long [.long 0]), (a14, ArC Z .double [.double (FP.l2d (p1.toInt64 + ((p2 &&& (255 : Int32)).toInt64 + (1 : Int64))))])]) rfl ?_
    intro T16 W16 H16
    refine g_aload W16 at_42 (pc' := 44) rfl rfl rfl ?_
    refine g_iconst W16 at_44 (pc' := 45) rfl (v := (0 : Int32)) (by decide) ?_
    refine g_lconst W16 at_45 (pc' := 46) rfl (v := (1 : Int64)) (by decide) ?_
    refine g_lastore W16 H16 (i := 0) rfl (jx := 0) (by decide) (by exact (by decide : 0 < 1)) at_46 (pc' := 47) rfl (L' := [(a15, ArC Z .long [.long (1 : Int64)]), (a14, ArC Z .double [.double (FP.l2d (p1.toInt64 + ((p2 &&& (255 : Int32)).toInt64 + (1 : Int64))))])]) rfl ?_
    intro T17 W17 H17
    refine g_iload W17 at_47 (pc' := 49) rfl rfl ?_
    refine g_iconst W17 at_49 (pc' := 50) rfl (v := (1 : Int32)) (by decide) ?_
    refine g_icmp W17 at_50 (pcy := 72) (by decide) (pc' := 53) rfl (fun _ => ?_) (fun (h : ¬ ¬ (1 : Int32) < (1 : Int32)) => absurd h (by decide))
    refine g_iload W17 at_72 (pc' := 74) rfl rfl ?_
    refine g_iconst W17 at_74 (pc' := 75) rfl (v := (2 : Int32)) (by decide) ?_
    refine g_icmp W17 at_75 (pcy := 97) (by decide) (pc' := 78) rfl (fun _ => ?_) (fun (h : ¬ ¬ (2 : Int32) < (1 : Int32)) => absurd h (by decide))
    refine g_iloadN W17 at_97 (pc' := 98) rfl rfl ?_
    refine g_i2d W17 at_98 (pc' := 99) rfl rfl ?_
    refine g_dstore W17 at_99 (pc' := 101) rfl (ls' := #[.val (.int p0), .val (.int p1), .val (.int p2), .val (.int p3), .val (.int p4), .val (.int (1 : Int32)), .val (.long ((p2 &&& (255 : Int32)).toInt64 + (1 : Int64))), .second, .val (.ref a14), .val (.ref a15), .val (.double (FP.i2d p1)), .second, .unset, .unset, .unset, .unset, .unset, .unset]) rfl ?_
    refine g_iloadN W17 at_101 (pc' := 102) rfl rfl ?_
    refine g_i2l W17 at_102 (pc' := 103) rfl rfl ?_
    refine g_ldc2Long W17 (wd_2 hw) at_103 (pc' := 106) rfl ?_
    refine g_lload W17 at_106 (pc' := 108) rfl rfl ?_
    refine g_lmul W17 at_108 (pc' := 109) rfl rfl ?_
    refine g_ladd W17 at_109 (pc' := 110) rfl rfl ?_
    refine g_l2d W17 at_110 (pc' := 111) rfl rfl ?_
    refine g_dstore W17 at_111 (pc' := 113) rfl (ls' := #[.val (.int p0), .val (.int p1), .val (.int p2), .val (.int p3), .val (.int p4), .val (.int (1 : Int32)), .val (.long ((p2 &&& (255 : Int32)).toInt64 + (1 : Int64))), .second, .val (.ref a14), .val (.ref a15), .val (.double (FP.i2d p1)), .second, .val (.double (FP.l2d (p1.toInt64 + ((4 : Int64) * ((p2 &&& (255 : Int32)).toInt64 + (1 : Int64)))))), .second, .unset, .unset, .unset, .unset]) rfl ?_
    refine g_new W17 (wd_3 hw) (wd_4 hw) (wd_5 hw) (la_Centroids hw) (by decide) H17 at_113 (pc' := 116) rfl (kc' := 3) (ks' := 7) rfl rfl (by decide) (by decide) ?_
    intro T18 a18 W18 H18
    refine g_dup W18 at_116 (pc' := 117) rfl rfl ?_
    refine g_aload W18 at_117 (pc' := 119) rfl rfl rfl ?_
    refine g_aload W18 at_119 (pc' := 121) rfl rfl rfl ?_
    refine g_iload W18 at_121 (pc' := 123) rfl rfl ?_
    refine g_i2l W18 at_123 (pc' := 124) rfl rfl ?_
    refine g_dload W18 at_124 (pc' := 126) rfl rfl ?_
    refine g_dload W18 at_126 (pc' := 128) rfl rfl ?_
    refine g_callI W18 (argsL := [.ref a14, .ref a15, .long (1 : Int32).toInt64, .double (FP.i2d p1), .double (FP.l2d (p1.toInt64 + ((4 : Int64) * ((p2 &&& (255 : Int32)).toInt64 + (1 : Int64)))))]) (st := [.ref a18]) rfl (wd_6 hw) (wd_7 hw) (wd_5 hw) (wd_8 hw) (by decide) (a := a18) (c_init l Z a0 hw n0 a18 a14 a15 (1 : Int32).toInt64 (FP.i2d p1) (FP.l2d (p1.toInt64 + ((4 : Int64) * ((p2 &&& (255 : Int32)).toInt64 + (1 : Int64))))) _ _ H18) pd_0 rfl rfl rfl at_128 (pc' := 131) rfl (by decide) (Wn := 1) (Nat.le_of_eq rfl) (by decide) (kc' := 3) (ks' := 7) rfl rfl (by decide) (by decide) ?_
    intro T19 v19 W19 hp19
    obtain ⟨rfl, H19⟩ := hp19
    show Goes p e below _ (T19.setTop (mkF m 131 #[.val (.int p0), .val (.int p1), .val (.int p2), .val (.int p3), .val (.int p4), .val (.int (1 : Int32)), .val (.long ((p2 &&& (255 : Int32)).toInt64 + (1 : Int64))), .second, .val (.ref a14), .val (.ref a15), .val (.double (FP.i2d p1)), .second, .val (.double (FP.l2d (p1.toInt64 + ((4 : Int64) * ((p2 &&& (255 : Int32)).toInt64 + (1 : Int64)))))), .second, .unset, .unset, .unset, .unset] [.ref a18]))
    refine g_astore W19 at_131 (pc' := 133) rfl rfl (ls' := #[.val (.int p0), .val (.int p1), .val (.int p2), .val (.int p3), .val (.int p4), .val (.int (1 : Int32)), .val (.long ((p2 &&& (255 : Int32)).toInt64 + (1 : Int64))), .second, .val (.ref a14), .val (.ref a15), .val (.double (FP.i2d p1)), .second, .val (.double (FP.l2d (p1.toInt64 + ((4 : Int64) * ((p2 &&& (255 : Int32)).toInt64 + (1 : Int64)))))), .second, .val (.ref a18), .unset, .unset, .unset]) rfl ?_
    refine g_iload W19 at_133 (pc' := 135) rfl rfl ?_
    refine g_iconst W19 at_135 (pc' := 136) rfl (v := (1 : Int32)) (by decide) ?_
    refine g_iand W19 at_136 (pc' := 137) rfl rfl ?_
    have J : ∀ (TJJ : State) (j : Int32), Wk Z x code maxLocals ret n0 p l e room_1 s m #[.int p0, .int p1, .int p2, .int p3, .int p4] below meth c TJJ 3 7 → Hp Z n0 TJJ.heap [(a18, ObC Z "com/example/dipper/dipper/Centroids" [("com/example/dipper/dipper/Centroids", "means", "[D", .ref a14), ("com/example/dipper/dipper/Centroids", "weights", "[J", .ref a15), ("com/example/dipper/dipper/Centroids", "count", "J", .long (1 : Int32).toInt64), ("com/example/dipper/dipper/Centroids", "min", "D", .double (FP.i2d p1)), ("com/example/dipper/dipper/Centroids", "max", "D", .double (FP.l2d (p1.toInt64 + ((4 : Int64) * ((p2 &&& (255 : Int32)).toInt64 + (1 : Int64))))))]), (a15, ArC Z .long [.long (1 : Int64)]), (a14, ArC Z .double [.double (FP.l2d (p1.toInt64 + ((p2 &&& (255 : Int32)).toInt64 + (1 : Int64))))])] → Goes p e below (En s n0 (Room.cells room_1) (Room.slots room_1) (fun v _ => v = some (.int 1))) (TJJ.setTop (mkF m 150 #[.val (.int p0), .val (.int p1), .val (.int p2), .val (.int p3), .val (.int p4), .val (.int (1 : Int32)), .val (.long ((p2 &&& (255 : Int32)).toInt64 + (1 : Int64))), .second, .val (.ref a14), .val (.ref a15), .val (.double (FP.i2d p1)), .second, .val (.double (FP.l2d (p1.toInt64 + ((4 : Int64) * ((p2 &&& (255 : Int32)).toInt64 + (1 : Int64)))))), .second, .val (.ref a18), .unset, .unset, .unset] [.int j])) := by
      intro TJJ j WJJ HJJ
      refine g_istore WJJ at_150 (pc' := 152) rfl (ls' := #[.val (.int p0), .val (.int p1), .val (.int p2), .val (.int p3), .val (.int p4), .val (.int (1 : Int32)), .val (.long ((p2 &&& (255 : Int32)).toInt64 + (1 : Int64))), .second, .val (.ref a14), .val (.ref a15), .val (.double (FP.i2d p1)), .second, .val (.double (FP.l2d (p1.toInt64 + ((4 : Int64) * ((p2 &&& (255 : Int32)).toInt64 + (1 : Int64)))))), .second, .val (.ref a18), .val (.int j), .unset, .unset]) rfl ?_
      refine g_iload WJJ at_152 (pc' := 154) rfl rfl ?_
      refine g_if WJJ at_154 (pcy := 164) (by decide) (pc' := 157) rfl (fun (c20 : ¬ j < (0 : Int32)) => ?_) (fun (c20 : ¬ ¬ j < (0 : Int32)) => ?_)
      · refine g_iload WJJ at_164 (pc' := 166) rfl rfl ?_
        refine g_iload WJJ at_166 (pc' := 168) rfl rfl ?_
        refine g_icmp WJJ at_168 (pcy := 178) (by decide) (pc' := 171) rfl (fun (c21 : j < (1 : Int32)) => ?_) (fun (c21 : ¬ j < (1 : Int32)) => ?_)
        · have hk := lt1 c20 c21
          subst hk
          refine g_iloadN WJJ at_178 (pc' := 179) rfl rfl ?_
          refine g_i2l WJJ at_179 (pc' := 180) rfl rfl ?_
          refine g_iload WJJ at_180 (pc' := 182) rfl rfl ?_
          refine g_iconst WJJ at_182 (pc' := 183) rfl (v := (1 : Int32)) (by decide) ?_
          refine g_iadd WJJ at_183 (pc' := 184) rfl (v := (1 : Int32)) (by decide) ?_
          refine g_i2l WJJ at_184 (pc' := 185) rfl rfl ?_
          refine g_lload WJJ at_185 (pc' := 187) rfl rfl ?_
          refine g_lmul WJJ at_187 (pc' := 188) rfl rfl ?_
          refine g_ladd WJJ at_188 (pc' := 189) rfl rfl ?_
          refine g_l2d WJJ at_189 (pc' := 190) rfl rfl ?_
          refine g_dstore WJJ at_190 (pc' := 192) rfl (ls' := #[.val (.int p0), .val (.int p1), .val (.int p2), .val (.int p3), .val (.int p4), .val (.int (1 : Int32)), .val (.long ((p2 &&& (255 : Int32)).toInt64 + (1 : Int64))), .second, .val (.ref a14), .val (.ref a15), .val (.double (FP.i2d p1)), .second, .val (.double (FP.l2d (p1.toInt64 + ((4 : Int64) * ((p2 &&& (255 : Int32)).toInt64 + (1 : Int64)))))), .second, .val (.ref a18), .val (.int (0 : Int32)), .val (.double (FP.l2d (p1.toInt64 + ((1 : Int32).toInt64 * ((p2 &&& (255 : Int32)).toInt64 + (1 : Int64)))))), .second]) rfl ?_
          refine g_aload WJJ at_192 (pc' := 194) rfl rfl rfl ?_
          refine g_iload WJJ at_194 (pc' := 196) rfl rfl ?_
          have H22f : Hp Z n0 TJJ.heap [(a14, ArC Z .double [.double (FP.l2d (p1.toInt64 + ((p2 &&& (255 : Int32)).toInt64 + (1 : Int64))))]), (a18, ObC Z "com/example/dipper/dipper/Centroids" [("com/example/dipper/dipper/Centroids", "means", "[D", .ref a14), ("com/example/dipper/dipper/Centroids", "weights", "[J", .ref a15), ("com/example/dipper/dipper/Centroids", "count", "J", .long (1 : Int32).toInt64), ("com/example/dipper/dipper/Centroids", "min", "D", .double (FP.i2d p1)), ("com/example/dipper/dipper/Centroids", "max", "D", .double (FP.l2d (p1.toInt64 + ((4 : Int64) * ((p2 &&& (255 : Int32)).toInt64 + (1 : Int64))))))]), (a15, ArC Z .long [.long (1 : Int64)])] := HJJ.front (i := 2) rfl rfl
          have H23f : Hp Z n0 TJJ.heap [(a18, ObC Z "com/example/dipper/dipper/Centroids" [("com/example/dipper/dipper/Centroids", "means", "[D", .ref a14), ("com/example/dipper/dipper/Centroids", "weights", "[J", .ref a15), ("com/example/dipper/dipper/Centroids", "count", "J", .long (1 : Int32).toInt64), ("com/example/dipper/dipper/Centroids", "min", "D", .double (FP.i2d p1)), ("com/example/dipper/dipper/Centroids", "max", "D", .double (FP.l2d (p1.toInt64 + ((4 : Int64) * ((p2 &&& (255 : Int32)).toInt64 + (1 : Int64))))))]), (a14, ArC Z .double [.double (FP.l2d (p1.toInt64 + ((p2 &&& (255 : Int32)).toInt64 + (1 : Int64))))]), (a15, ArC Z .long [.long (1 : Int64)])] := H22f.front (i := 1) rfl rfl
          refine g_callV WJJ (argsL := [.int (0 : Int32)]) (st := []) (wd_22 hw) (wd_23 hw) (wd_25 hw) (wd_24 hw) (wd_5 hw) (wd_26 hw) (by decide) (a := a18) H23f (i := 0) rfl (c_mean l Z a0 hw n0 a18 a14 a15 (1 : Int32).toInt64 (FP.i2d p1) (FP.l2d (p1.toInt64 + ((4 : Int64) * ((p2 &&& (255 : Int32)).toInt64 + (1 : Int64))))) [.double (FP.l2d (p1.toInt64 + ((p2 &&& (255 : Int32)).toInt64 + (1 : Int64))))] (1 : Int32) (0 : Int32) (FP.l2d (p1.toInt64 + ((p2 &&& (255 : Int32)).toInt64 + (1 : Int64)))) rfl ⟨fun q => absurd q (by decide), fun _ q => absurd (by decide) q, fun _ _ => ⟨0, by decide, rfl⟩⟩ _ _ H23f) pd_1 rfl rfl rfl at_196 (pc' := 199) rfl (by decide) (Wn := 0) (Nat.le_of_eq rfl) (by decide) (kc' := 3) (ks' := 7) rfl rfl (by decide) (by decide) ?_
          intro T24 v24 W24 hp24
          obtain ⟨rfl, H24⟩ := hp24
          show Goes p e below _ (T24.setTop (mkF m 199 #[.val (.int p0), .val (.int p1), .val (.int p2), .val (.int p3), .val (.int p4), .val (.int (1 : Int32)), .val (.long ((p2 &&& (255 : Int32)).toInt64 + (1 : Int64))), .second, .val (.ref a14), .val (.ref a15), .val (.double (FP.i2d p1)), .second, .val (.double (FP.l2d (p1.toInt64 + ((4 : Int64) * ((p2 &&& (255 : Int32)).toInt64 + (1 : Int64)))))), .second, .val (.ref a18), .val (.int (0 : Int32)), .val (.double (FP.l2d (p1.toInt64 + ((1 : Int32).toInt64 * ((p2 &&& (255 : Int32)).toInt64 + (1 : Int64)))))), .second] [.double (FP.l2d (p1.toInt64 + ((p2 &&& (255 : Int32)).toInt64 + (1 : Int64))))]))
          refine g_dload W24 at_199 (pc' := 201) rfl rfl ?_
          refine g_dcmp W24 at_201 (pc' := 202) rfl rfl ?_
          rw [show (cmpValue (FP.dcmp (FP.l2d (p1.toInt64 + ((p2 &&& (255 : Int32)).toInt64 + (1 : Int64)))) (FP.l2d (p1.toInt64 + ((1 : Int32).toInt64 * ((p2 &&& (255 : Int32)).toInt64 + (1 : Int64)))))) .l) = (0 : Int32) from dcmpV_eq (by rw [show (1 : Int32).toInt64 = (1 : Int64) from by decide, Int64.one_mul]) (l2d_fin _).noNaN .l]
          refine g_if W24 at_202 (pcy := 209) (by decide) (pc' := 205) rfl (fun (h : ¬ (0 : Int32) = (0 : Int32)) => absurd h (by decide)) (fun _ => ?_)
          refine g_iconst W24 at_205 (pc' := 206) rfl (v := (1 : Int32)) (by decide) ?_
          refine g_goto W24 at_206 (pc' := 210) (by decide) ?_
          exact g_zreturn W24 (by decide) at_210 rfl (by decide) (by decide)
        · refine g_dload WJJ at_171 (pc' := 173) rfl rfl ?_
          refine g_dstore WJJ at_173 (pc' := 175) rfl (ls' := #[.val (.int p0), .val (.int p1), .val (.int p2), .val (.int p3), .val (.int p4), .val (.int (1 : Int32)), .val (.long ((p2 &&& (255 : Int32)).toInt64 + (1 : Int64))), .second, .val (.ref a14), .val (.ref a15), .val (.double (FP.i2d p1)), .second, .val (.double (FP.l2d (p1.toInt64 + ((4 : Int64) * ((p2 &&& (255 : Int32)).toInt64 + (1 : Int64)))))), .second, .val (.ref a18), .val (.int j), .val (.double (FP.l2d (p1.toInt64 + ((4 : Int64) * ((p2 &&& (255 : Int32)).toInt64 + (1 : Int64)))))), .second]) rfl ?_
          refine g_goto WJJ at_175 (pc' := 192) (by decide) ?_
          refine g_aload WJJ at_192 (pc' := 194) rfl rfl rfl ?_
          refine g_iload WJJ at_194 (pc' := 196) rfl rfl ?_
          have H25f : Hp Z n0 TJJ.heap [(a14, ArC Z .double [.double (FP.l2d (p1.toInt64 + ((p2 &&& (255 : Int32)).toInt64 + (1 : Int64))))]), (a18, ObC Z "com/example/dipper/dipper/Centroids" [("com/example/dipper/dipper/Centroids", "means", "[D", .ref a14), ("com/example/dipper/dipper/Centroids", "weights", "[J", .ref a15), ("com/example/dipper/dipper/Centroids", "count", "J", .long (1 : Int32).toInt64), ("com/example/dipper/dipper/Centroids", "min", "D", .double (FP.i2d p1)), ("com/example/dipper/dipper/Centroids", "max", "D", .double (FP.l2d (p1.toInt64 + ((4 : Int64) * ((p2 &&& (255 : Int32)).toInt64 + (1 : Int64))))))]), (a15, ArC Z .long [.long (1 : Int64)])] := HJJ.front (i := 2) rfl rfl
          have H26f : Hp Z n0 TJJ.heap [(a18, ObC Z "com/example/dipper/dipper/Centroids" [("com/example/dipper/dipper/Centroids", "means", "[D", .ref a14), ("com/example/dipper/dipper/Centroids", "weights", "[J", .ref a15), ("com/example/dipper/dipper/Centroids", "count", "J", .long (1 : Int32).toInt64), ("com/example/dipper/dipper/Centroids", "min", "D", .double (FP.i2d p1)), ("com/example/dipper/dipper/Centroids", "max", "D", .double (FP.l2d (p1.toInt64 + ((4 : Int64) * ((p2 &&& (255 : Int32)).toInt64 + (1 : Int64))))))]), (a14, ArC Z .double [.double (FP.l2d (p1.toInt64 + ((p2 &&& (255 : Int32)).toInt64 + (1 : Int64))))]), (a15, ArC Z .long [.long (1 : Int64)])] := H25f.front (i := 1) rfl rfl
          refine g_callV WJJ (argsL := [.int j]) (st := []) (wd_22 hw) (wd_23 hw) (wd_25 hw) (wd_24 hw) (wd_5 hw) (wd_26 hw) (by decide) (a := a18) H26f (i := 0) rfl (c_mean l Z a0 hw n0 a18 a14 a15 (1 : Int32).toInt64 (FP.i2d p1) (FP.l2d (p1.toInt64 + ((4 : Int64) * ((p2 &&& (255 : Int32)).toInt64 + (1 : Int64))))) [.double (FP.l2d (p1.toInt64 + ((p2 &&& (255 : Int32)).toInt64 + (1 : Int64))))] (1 : Int32) j (FP.l2d (p1.toInt64 + ((4 : Int64) * ((p2 &&& (255 : Int32)).toInt64 + (1 : Int64))))) rfl ⟨fun q => absurd q c20, fun _ _ => rfl, fun _ q => absurd q c21⟩ _ _ H26f) pd_1 rfl rfl rfl at_196 (pc' := 199) rfl (by decide) (Wn := 0) (Nat.le_of_eq rfl) (by decide) (kc' := 3) (ks' := 7) rfl rfl (by decide) (by decide) ?_
          intro T27 v27 W27 hp27
          obtain ⟨rfl, H27⟩ := hp27
          show Goes p e below _ (T27.setTop (mkF m 199 #[.val (.int p0), .val (.int p1), .val (.int p2), .val (.int p3), .val (.int p4), .val (.int (1 : Int32)), .val (.long ((p2 &&& (255 : Int32)).toInt64 + (1 : Int64))), .second, .val (.ref a14), .val (.ref a15), .val (.double (FP.i2d p1)), .second, .val (.double (FP.l2d (p1.toInt64 + ((4 : Int64) * ((p2 &&& (255 : Int32)).toInt64 + (1 : Int64)))))), .second, .val (.ref a18), .val (.int j), .val (.double (FP.l2d (p1.toInt64 + ((4 : Int64) * ((p2 &&& (255 : Int32)).toInt64 + (1 : Int64)))))), .second] [.double (FP.l2d (p1.toInt64 + ((4 : Int64) * ((p2 &&& (255 : Int32)).toInt64 + (1 : Int64)))))]))
          refine g_dload W27 at_199 (pc' := 201) rfl rfl ?_
          refine g_dcmp W27 at_201 (pc' := 202) rfl rfl ?_
          rw [show (cmpValue (FP.dcmp (FP.l2d (p1.toInt64 + ((4 : Int64) * ((p2 &&& (255 : Int32)).toInt64 + (1 : Int64))))) (FP.l2d (p1.toInt64 + ((4 : Int64) * ((p2 &&& (255 : Int32)).toInt64 + (1 : Int64)))))) .l) = (0 : Int32) from dcmpV_eq rfl (l2d_fin _).noNaN .l]
          refine g_if W27 at_202 (pcy := 209) (by decide) (pc' := 205) rfl (fun (h : ¬ (0 : Int32) = (0 : Int32)) => absurd h (by decide)) (fun _ => ?_)
          refine g_iconst W27 at_205 (pc' := 206) rfl (v := (1 : Int32)) (by decide) ?_
          refine g_goto W27 at_206 (pc' := 210) (by decide) ?_
          exact g_zreturn W27 (by decide) at_210 rfl (by decide) (by decide)
      · replace c20 := Classical.not_not.mp c20
        refine g_dload WJJ at_157 (pc' := 159) rfl rfl ?_
        refine g_dstore WJJ at_159 (pc' := 161) rfl (ls' := #[.val (.int p0), .val (.int p1), .val (.int p2), .val (.int p3), .val (.int p4), .val (.int (1 : Int32)), .val (.long ((p2 &&& (255 : Int32)).toInt64 + (1 : Int64))), .second, .val (.ref a14), .val (.ref a15), .val (.double (FP.i2d p1)), .second, .val (.double (FP.l2d (p1.toInt64 + ((4 : Int64) * ((p2 &&& (255 : Int32)).toInt64 + (1 : Int64)))))), .second, .val (.ref a18), .val (.int j), .val (.double (FP.i2d p1)), .second]) rfl ?_
        refine g_goto WJJ at_161 (pc' := 192) (by decide) ?_
        refine g_aload WJJ at_192 (pc' := 194) rfl rfl rfl ?_
        refine g_iload WJJ at_194 (pc' := 196) rfl rfl ?_
        have H28f : Hp Z n0 TJJ.heap [(a14, ArC Z .double [.double (FP.l2d (p1.toInt64 + ((p2 &&& (255 : Int32)).toInt64 + (1 : Int64))))]), (a18, ObC Z "com/example/dipper/dipper/Centroids" [("com/example/dipper/dipper/Centroids", "means", "[D", .ref a14), ("com/example/dipper/dipper/Centroids", "weights", "[J", .ref a15), ("com/example/dipper/dipper/Centroids", "count", "J", .long (1 : Int32).toInt64), ("com/example/dipper/dipper/Centroids", "min", "D", .double (FP.i2d p1)), ("com/example/dipper/dipper/Centroids", "max", "D", .double (FP.l2d (p1.toInt64 + ((4 : Int64) * ((p2 &&& (255 : Int32)).toInt64 + (1 : Int64))))))]), (a15, ArC Z .long [.long (1 : Int64)])] := HJJ.front (i := 2) rfl rfl
        have H29f : Hp Z n0 TJJ.heap [(a18, ObC Z "com/example/dipper/dipper/Centroids" [("com/example/dipper/dipper/Centroids", "means", "[D", .ref a14), ("com/example/dipper/dipper/Centroids", "weights", "[J", .ref a15), ("com/example/dipper/dipper/Centroids", "count", "J", .long (1 : Int32).toInt64), ("com/example/dipper/dipper/Centroids", "min", "D", .double (FP.i2d p1)), ("com/example/dipper/dipper/Centroids", "max", "D", .double (FP.l2d (p1.toInt64 + ((4 : Int64) * ((p2 &&& (255 : Int32)).toInt64 + (1 : Int64))))))]), (a14, ArC Z .double [.double (FP.l2d (p1.toInt64 + ((p2 &&& (255 : Int32)).toInt64 + (1 : Int64))))]), (a15, ArC Z .long [.long (1 : Int64)])] := H28f.front (i := 1) rfl rfl
        refine g_callV WJJ (argsL := [.int j]) (st := []) (wd_22 hw) (wd_23 hw) (wd_25 hw) (wd_24 hw) (wd_5 hw) (wd_26 hw) (by decide) (a := a18) H29f (i := 0) rfl (c_mean l Z a0 hw n0 a18 a14 a15 (1 : Int32).toInt64 (FP.i2d p1) (FP.l2d (p1.toInt64 + ((4 : Int64) * ((p2 &&& (255 : Int32)).toInt64 + (1 : Int64))))) [.double (FP.l2d (p1.toInt64 + ((p2 &&& (255 : Int32)).toInt64 + (1 : Int64))))] (1 : Int32) j (FP.i2d p1) rfl ⟨fun _ => rfl, fun q => absurd c20 q, fun q => absurd c20 q⟩ _ _ H29f) pd_1 rfl rfl rfl at_196 (pc' := 199) rfl (by decide) (Wn := 0) (Nat.le_of_eq rfl) (by decide) (kc' := 3) (ks' := 7) rfl rfl (by decide) (by decide) ?_
        intro T30 v30 W30 hp30
        obtain ⟨rfl, H30⟩ := hp30
        show Goes p e below _ (T30.setTop (mkF m 199 #[.val (.int p0), .val (.int p1), .val (.int p2), .val (.int p3), .val (.int p4), .val (.int (1 : Int32)), .val (.long ((p2 &&& (255 : Int32)).toInt64 + (1 : Int64))), .second, .val (.ref a14), .val (.ref a15), .val (.double (FP.i2d p1)), .second, .val (.double (FP.l2d (p1.toInt64 + ((4 : Int64) * ((p2 &&& (255 : Int32)).toInt64 + (1 : Int64)))))), .second, .val (.ref a18), .val (.int j), .val (.double (FP.i2d p1)), .second] [.double (FP.i2d p1)]))
        refine g_dload W30 at_199 (pc' := 201) rfl rfl ?_
        refine g_dcmp W30 at_201 (pc' := 202) rfl rfl ?_
        rw [show (cmpValue (FP.dcmp (FP.i2d p1) (FP.i2d p1)) .l) = (0 : Int32) from dcmpV_eq rfl (i2d_fin _).noNaN .l]
        refine g_if W30 at_202 (pcy := 209) (by decide) (pc' := 205) rfl (fun (h : ¬ (0 : Int32) = (0 : Int32)) => absurd h (by decide)) (fun _ => ?_)
        refine g_iconst W30 at_205 (pc' := 206) rfl (v := (1 : Int32)) (by decide) ?_
        refine g_goto W30 at_206 (pc' := 210) (by decide) ?_
        exact g_zreturn W30 (by decide) at_210 rfl (by decide) (by decide)
    refine g_if W19 at_137 (pcy := 144) (by decide) (pc' := 140) rfl (fun (c31 : (p4 &&& (1 : Int32)) = (0 : Int32)) => ?_) (fun (c31 : ¬ (p4 &&& (1 : Int32)) = (0 : Int32)) => ?_)
    · refine g_iloadN W19 at_144 (pc' := 145) rfl rfl ?_
      refine g_bipush W19 at_145 (pc' := 147) rfl (v := (6 : Int32)) (by decide) ?_
      refine g_irem W19 at_147 (pc' := 148) rfl (by decide) rfl ?_
      refine g_iconst W19 at_148 (pc' := 149) rfl (v := (1 : Int32)) (by decide) ?_
      refine g_isub W19 at_149 (pc' := 150) rfl rfl ?_
      exact J _ _ W19 H19
    · refine g_iloadN W19 at_140 (pc' := 141) rfl rfl ?_
      refine g_goto W19 at_141 (pc' := 150) (by decide) ?_
      exact J _ _ W19 H19
  · rw [hn]
    refine g_istore W0 at_3 (pc' := 5) rfl (ls' := #[.val (.int p0), .val (.int p1), .val (.int p2), .val (.int p3), .val (.int p4), .val (.int (2 : Int32)), .unset, .unset, .unset, .unset, .unset, .unset, .unset, .unset, .unset, .unset, .unset, .unset]) rfl ?_
    refine g_iloadN W0 at_5 (pc' := 6) rfl rfl ?_
    refine g_sipush W0 at_6 (pc' := 9) rfl (v := (255 : Int32)) (by decide) ?_
    refine g_iand W0 at_9 (pc' := 10) rfl rfl ?_
    refine g_i2l W0 at_10 (pc' := 11) rfl rfl ?_
    refine g_lconst W0 at_11 (pc' := 12) rfl (v := (1 : Int64)) (by decide) ?_
    refine g_ladd W0 at_12 (pc' := 13) rfl rfl ?_
    refine g_lstore W0 at_13 (pc' := 15) rfl (ls' := #[.val (.int p0), .val (.int p1), .val (.int p2), .val (.int p3), .val (.int p4), .val (.int (2 : Int32)), .val (.long ((p2 &&& (255 : Int32)).toInt64 + (1 : Int64))), .second, .unset, .unset, .unset, .unset, .unset, .unset, .unset, .unset, .unset, .unset]) rfl ?_
    refine g_iload W0 at_15 (pc' := 17) rfl rfl ?_
    refine g_newarr (aty := .double) W0 (wd_0 hw) H0 (by decide) (vs := [.double 0, .double 0]) rfl (cap := 2) (Nat.le_of_eq rfl) (by decide) at_17 (pc' := 19) rfl (kc' := 1) (ks' := 2) rfl rfl (by decide) (by decide) ?_
    intro T32 a32 W32 H32
    replace H32 : Hp Z n0 T32.heap [(a32, ArC Z .double [.double 0, .double 0])] := H32
    refine g_astore W32 at_19 (pc' := 21) rfl rfl (ls' := #[.val (.int p0), .val (.int p1), .val (.int p2), .val (.int p3), .val (.int p4), .val (.int (2 : Int32)), .val (.long ((p2 &&& (255 : Int32)).toInt64 + (1 : Int64))), .second, .val (.ref a32), .unset, .unset, .unset, .unset, .unset, .unset, .unset, .unset, .unset]) rfl ?_
    refine g_iload W32 at_21 (pc' := 23) rfl rfl ?_
    refine g_newarr (aty := .long) W32 (wd_1 hw) H32 (by decide) (vs := [.long 0, .long 0]) rfl (cap := 2) (Nat.le_of_eq rfl) (by decide) at_23 (pc' := 25) rfl (kc' := 2) (ks' := 4) rfl rfl (by decide) (by decide) ?_
    intro T33 a33 W33 H33
    replace H33 : Hp Z n0 T33.heap [(a33, ArC Z .long [.long 0, .long 0]), (a32, ArC Z .double [.double 0, .double 0])] := H33
    refine g_astore W33 at_25 (pc' := 27) rfl rfl (ls' := #[.val (.int p0), .val (.int p1), .val (.int p2), .val (.int p3), .val (.int p4), .val (.int (2 : Int32)), .val (.long ((p2 &&& (255 : Int32)).toInt64 + (1 : Int64))), .second, .val (.ref a32), .val (.ref a33), .unset, .unset, .unset, .unset, .unset, .unset, .unset, .unset]) rfl ?_
    refine g_iload W33 at_27 (pc' := 29) rfl rfl ?_
    refine g_if W33 at_29 (pcy := 47) (by decide) (pc' := 32) rfl (fun (h : ¬ (0 : Int32) < (2 : Int32)) => absurd h (by decide)) (fun _ => ?_)
    refine g_aload W33 at_32 (pc' := 34) rfl rfl rfl ?_
    refine g_iconst W33 at_34 (pc' := 35) rfl (v := (0 : Int32)) (by decide) ?_
    refine g_iloadN W33 at_35 (pc' := 36) rfl rfl ?_
    refine g_i2l W33 at_36 (pc' := 37) rfl rfl ?_
    refine g_lload W33 at_37 (pc' := 39) rfl rfl ?_
    refine g_ladd W33 at_39 (pc' := 40) rfl rfl ?_
    refine g_l2d W33 at_40 (pc' := 41) rfl rfl ?_
    refine g_dastore W33 H33 (i := 1) rfl (jx := 0) (by decide) (by exact (by decide : 0 < 2)) at_41 (pc' := 42) rfl (L' := [(a33, ArC Z .long [.long 0, .long 0]), (a32, ArC Z .double [.double (FP.l2d (p1.toInt64 + ((p2 &&& (255 : Int32)).toInt64 + (1 : Int64)))), .double 0])]) rfl ?_
    intro T34 W34 H34
    refine g_aload W34 at_42 (pc' := 44) rfl rfl rfl ?_
    refine g_iconst W34 at_44 (pc' := 45) rfl (v := (0 : Int32)) (by decide) ?_
    refine g_lconst W34 at_45 (pc' := 46) rfl (v := (1 : Int64)) (by decide) ?_
    refine g_lastore W34 H34 (i := 0) rfl (jx := 0) (by decide) (by exact (by decide : 0 < 2)) at_46 (pc' := 47) rfl (L' := [(a33, ArC Z .long [.long (1 : Int64), .long 0]), (a32, ArC Z .double [.double (FP.l2d (p1.toInt64 + ((p2 &&& (255 : Int32)).toInt64 + (1 : Int64)))), .double 0])]) rfl ?_
    intro T35 W35 H35
    refine g_iload W35 at_47 (pc' := 49) rfl rfl ?_
    refine g_iconst W35 at_49 (pc' := 50) rfl (v := (1 : Int32)) (by decide) ?_
    refine g_icmp W35 at_50 (pcy := 72) (by decide) (pc' := 53) rfl (fun (h : ¬ (1 : Int32) < (2 : Int32)) => absurd h (by decide)) (fun _ => ?_)
    refine g_aload W35 at_53 (pc' := 55) rfl rfl rfl ?_
    refine g_iconst W35 at_55 (pc' := 56) rfl (v := (1 : Int32)) (by decide) ?_
    refine g_iloadN W35 at_56 (pc' := 57) rfl rfl ?_
    refine g_i2l W35 at_57 (pc' := 58) rfl rfl ?_
    refine g_ldc2Long W35 (wd_27 hw) at_58 (pc' := 61) rfl ?_
    refine g_lload W35 at_61 (pc' := 63) rfl rfl ?_
    refine g_lmul W35 at_63 (pc' := 64) rfl rfl ?_
    refine g_ladd W35 at_64 (pc' := 65) rfl rfl ?_
    refine g_l2d W35 at_65 (pc' := 66) rfl rfl ?_
    refine g_dastore W35 H35 (i := 1) rfl (jx := 1) (by decide) (by exact (by decide : 1 < 2)) at_66 (pc' := 67) rfl (L' := [(a33, ArC Z .long [.long (1 : Int64), .long 0]), (a32, ArC Z .double [.double (FP.l2d (p1.toInt64 + ((p2 &&& (255 : Int32)).toInt64 + (1 : Int64)))), .double (FP.l2d (p1.toInt64 + ((2 : Int64) * ((p2 &&& (255 : Int32)).toInt64 + (1 : Int64)))))])]) rfl ?_
    intro T36 W36 H36
    refine g_aload W36 at_67 (pc' := 69) rfl rfl rfl ?_
    refine g_iconst W36 at_69 (pc' := 70) rfl (v := (1 : Int32)) (by decide) ?_
    refine g_lconst W36 at_70 (pc' := 71) rfl (v := (1 : Int64)) (by decide) ?_
    refine g_lastore W36 H36 (i := 0) rfl (jx := 1) (by decide) (by exact (by decide : 1 < 2)) at_71 (pc' := 72) rfl (L' := [(a33, ArC Z .long [.long (1 : Int64), .long (1 : Int64)]), (a32, ArC Z .double [.double (FP.l2d (p1.toInt64 + ((p2 &&& (255 : Int32)).toInt64 + (1 : Int64)))), .double (FP.l2d (p1.toInt64 + ((2 : Int64) * ((p2 &&& (255 : Int32)).toInt64 + (1 : Int64)))))])]) rfl ?_
    intro T37 W37 H37
    refine g_iload W37 at_72 (pc' := 74) rfl rfl ?_
    refine g_iconst W37 at_74 (pc' := 75) rfl (v := (2 : Int32)) (by decide) ?_
    refine g_icmp W37 at_75 (pcy := 97) (by decide) (pc' := 78) rfl (fun _ => ?_) (fun (h : ¬ ¬ (2 : Int32) < (2 : Int32)) => absurd h (by decide))
    refine g_iloadN W37 at_97 (pc' := 98) rfl rfl ?_
    refine g_i2d W37 at_98 (pc' := 99) rfl rfl ?_
    refine g_dstore W37 at_99 (pc' := 101) rfl (ls' := #[.val (.int p0), .val (.int p1), .val (.int p2), .val (.int p3), .val (.int p4), .val (.int (2 : Int32)), .val (.long ((p2 &&& (255 : Int32)).toInt64 + (1 : Int64))), .second, .val (.ref a32), .val (.ref a33), .val (.double (FP.i2d p1)), .second, .unset, .unset, .unset, .unset, .unset, .unset]) rfl ?_
    refine g_iloadN W37 at_101 (pc' := 102) rfl rfl ?_
    refine g_i2l W37 at_102 (pc' := 103) rfl rfl ?_
    refine g_ldc2Long W37 (wd_2 hw) at_103 (pc' := 106) rfl ?_
    refine g_lload W37 at_106 (pc' := 108) rfl rfl ?_
    refine g_lmul W37 at_108 (pc' := 109) rfl rfl ?_
    refine g_ladd W37 at_109 (pc' := 110) rfl rfl ?_
    refine g_l2d W37 at_110 (pc' := 111) rfl rfl ?_
    refine g_dstore W37 at_111 (pc' := 113) rfl (ls' := #[.val (.int p0), .val (.int p1), .val (.int p2), .val (.int p3), .val (.int p4), .val (.int (2 : Int32)), .val (.long ((p2 &&& (255 : Int32)).toInt64 + (1 : Int64))), .second, .val (.ref a32), .val (.ref a33), .val (.double (FP.i2d p1)), .second, .val (.double (FP.l2d (p1.toInt64 + ((4 : Int64) * ((p2 &&& (255 : Int32)).toInt64 + (1 : Int64)))))), .second, .unset, .unset, .unset, .unset]) rfl ?_
    refine g_new W37 (wd_3 hw) (wd_4 hw) (wd_5 hw) (la_Centroids hw) (by decide) H37 at_113 (pc' := 116) rfl (kc' := 3) (ks' := 9) rfl rfl (by decide) (by decide) ?_
    intro T38 a38 W38 H38
    refine g_dup W38 at_116 (pc' := 117) rfl rfl ?_
    refine g_aload W38 at_117 (pc' := 119) rfl rfl rfl ?_
    refine g_aload W38 at_119 (pc' := 121) rfl rfl rfl ?_
    refine g_iload W38 at_121 (pc' := 123) rfl rfl ?_
    refine g_i2l W38 at_123 (pc' := 124) rfl rfl ?_
    refine g_dload W38 at_124 (pc' := 126) rfl rfl ?_
    refine g_dload W38 at_126 (pc' := 128) rfl rfl ?_
    refine g_callI W38 (argsL := [.ref a32, .ref a33, .long (2 : Int32).toInt64, .double (FP.i2d p1), .double (FP.l2d (p1.toInt64 + ((4 : Int64) * ((p2 &&& (255 : Int32)).toInt64 + (1 : Int64)))))]) (st := [.ref a38]) rfl (wd_6 hw) (wd_7 hw) (wd_5 hw) (wd_8 hw) (by decide) (a := a38) (c_init l Z a0 hw n0 a38 a32 a33 (2 : Int32).toInt64 (FP.i2d p1) (FP.l2d (p1.toInt64 + ((4 : Int64) * ((p2 &&& (255 : Int32)).toInt64 + (1 : Int64))))) _ _ H38) pd_0 rfl rfl rfl at_128 (pc' := 131) rfl (by decide) (Wn := 1) (Nat.le_of_eq rfl) (by decide) (kc' := 3) (ks' := 9) rfl rfl (by decide) (by decide) ?_
    intro T39 v39 W39 hp39
    obtain ⟨rfl, H39⟩ := hp39
    show Goes p e below _ (T39.setTop (mkF m 131 #[.val (.int p0), .val (.int p1), .val (.int p2), .val (.int p3), .val (.int p4), .val (.int (2 : Int32)), .val (.long ((p2 &&& (255 : Int32)).toInt64 + (1 : Int64))), .second, .val (.ref a32), .val (.ref a33), .val (.double (FP.i2d p1)), .second, .val (.double (FP.l2d (p1.toInt64 + ((4 : Int64) * ((p2 &&& (255 : Int32)).toInt64 + (1 : Int64)))))), .second, .unset, .unset, .unset, .unset] [.ref a38]))
    refine g_astore W39 at_131 (pc' := 133) rfl rfl (ls' := #[.val (.int p0), .val (.int p1), .val (.int p2), .val (.int p3), .val (.int p4), .val (.int (2 : Int32)), .val (.long ((p2 &&& (255 : Int32)).toInt64 + (1 : Int64))), .second, .val (.ref a32), .val (.ref a33), .val (.double (FP.i2d p1)), .second, .val (.double (FP.l2d (p1.toInt64 + ((4 : Int64) * ((p2 &&& (255 : Int32)).toInt64 + (1 : Int64)))))), .second, .val (.ref a38), .unset, .unset, .unset]) rfl ?_
    refine g_iload W39 at_133 (pc' := 135) rfl rfl ?_
    refine g_iconst W39 at_135 (pc' := 136) rfl (v := (1 : Int32)) (by decide) ?_
    refine g_iand W39 at_136 (pc' := 137) rfl rfl ?_
    have J : ∀ (TJJ : State) (j : Int32), Wk Z x code maxLocals ret n0 p l e room_1 s m #[.int p0, .int p1, .int p2, .int p3, .int p4] below meth c TJJ 3 9 → Hp Z n0 TJJ.heap [(a38, ObC Z "com/example/dipper/dipper/Centroids" [("com/example/dipper/dipper/Centroids", "means", "[D", .ref a32), ("com/example/dipper/dipper/Centroids", "weights", "[J", .ref a33), ("com/example/dipper/dipper/Centroids", "count", "J", .long (2 : Int32).toInt64), ("com/example/dipper/dipper/Centroids", "min", "D", .double (FP.i2d p1)), ("com/example/dipper/dipper/Centroids", "max", "D", .double (FP.l2d (p1.toInt64 + ((4 : Int64) * ((p2 &&& (255 : Int32)).toInt64 + (1 : Int64))))))]), (a33, ArC Z .long [.long (1 : Int64), .long (1 : Int64)]), (a32, ArC Z .double [.double (FP.l2d (p1.toInt64 + ((p2 &&& (255 : Int32)).toInt64 + (1 : Int64)))), .double (FP.l2d (p1.toInt64 + ((2 : Int64) * ((p2 &&& (255 : Int32)).toInt64 + (1 : Int64)))))])] → Goes p e below (En s n0 (Room.cells room_1) (Room.slots room_1) (fun v _ => v = some (.int 1))) (TJJ.setTop (mkF m 150 #[.val (.int p0), .val (.int p1), .val (.int p2), .val (.int p3), .val (.int p4), .val (.int (2 : Int32)), .val (.long ((p2 &&& (255 : Int32)).toInt64 + (1 : Int64))), .second, .val (.ref a32), .val (.ref a33), .val (.double (FP.i2d p1)), .second, .val (.double (FP.l2d (p1.toInt64 + ((4 : Int64) * ((p2 &&& (255 : Int32)).toInt64 + (1 : Int64)))))), .second, .val (.ref a38), .unset, .unset, .unset] [.int j])) := by
      intro TJJ j WJJ HJJ
      refine g_istore WJJ at_150 (pc' := 152) rfl (ls' := #[.val (.int p0), .val (.int p1), .val (.int p2), .val (.int p3), .val (.int p4), .val (.int (2 : Int32)), .val (.long ((p2 &&& (255 : Int32)).toInt64 + (1 : Int64))), .second, .val (.ref a32), .val (.ref a33), .val (.double (FP.i2d p1)), .second, .val (.double (FP.l2d (p1.toInt64 + ((4 : Int64) * ((p2 &&& (255 : Int32)).toInt64 + (1 : Int64)))))), .second, .val (.ref a38), .val (.int j), .unset, .unset]) rfl ?_
      refine g_iload WJJ at_152 (pc' := 154) rfl rfl ?_
      refine g_if WJJ at_154 (pcy := 164) (by decide) (pc' := 157) rfl (fun (c40 : ¬ j < (0 : Int32)) => ?_) (fun (c40 : ¬ ¬ j < (0 : Int32)) => ?_)
      · refine g_iload WJJ at_164 (pc' := 166) rfl rfl ?_
        refine g_iload WJJ at_166 (pc' := 168) rfl rfl ?_
        refine g_icmp WJJ at_168 (pcy := 178) (by decide) (pc' := 171) rfl (fun (c41 : j < (2 : Int32)) => ?_) (fun (c41 : ¬ j < (2 : Int32)) => ?_)
        · rcases lt2 c40 c41 with hk | hk
          · subst hk
            refine g_iloadN WJJ at_178 (pc' := 179) rfl rfl ?_
            refine g_i2l WJJ at_179 (pc' := 180) rfl rfl ?_
            refine g_iload WJJ at_180 (pc' := 182) rfl rfl ?_
            refine g_iconst WJJ at_182 (pc' := 183) rfl (v := (1 : Int32)) (by decide) ?_
            refine g_iadd WJJ at_183 (pc' := 184) rfl (v := (1 : Int32)) (by decide) ?_
            refine g_i2l WJJ at_184 (pc' := 185) rfl rfl ?_
            refine g_lload WJJ at_185 (pc' := 187) rfl rfl ?_
            refine g_lmul WJJ at_187 (pc' := 188) rfl rfl ?_
            refine g_ladd WJJ at_188 (pc' := 189) rfl rfl ?_
            refine g_l2d WJJ at_189 (pc' := 190) rfl rfl ?_
            refine g_dstore WJJ at_190 (pc' := 192) rfl (ls' := #[.val (.int p0), .val (.int p1), .val (.int p2), .val (.int p3), .val (.int p4), .val (.int (2 : Int32)), .val (.long ((p2 &&& (255 : Int32)).toInt64 + (1 : Int64))), .second, .val (.ref a32), .val (.ref a33), .val (.double (FP.i2d p1)), .second, .val (.double (FP.l2d (p1.toInt64 + ((4 : Int64) * ((p2 &&& (255 : Int32)).toInt64 + (1 : Int64)))))), .second, .val (.ref a38), .val (.int (0 : Int32)), .val (.double (FP.l2d (p1.toInt64 + ((1 : Int32).toInt64 * ((p2 &&& (255 : Int32)).toInt64 + (1 : Int64)))))), .second]) rfl ?_
            refine g_aload WJJ at_192 (pc' := 194) rfl rfl rfl ?_
            refine g_iload WJJ at_194 (pc' := 196) rfl rfl ?_
            have H42f : Hp Z n0 TJJ.heap [(a32, ArC Z .double [.double (FP.l2d (p1.toInt64 + ((p2 &&& (255 : Int32)).toInt64 + (1 : Int64)))), .double (FP.l2d (p1.toInt64 + ((2 : Int64) * ((p2 &&& (255 : Int32)).toInt64 + (1 : Int64)))))]), (a38, ObC Z "com/example/dipper/dipper/Centroids" [("com/example/dipper/dipper/Centroids", "means", "[D", .ref a32), ("com/example/dipper/dipper/Centroids", "weights", "[J", .ref a33), ("com/example/dipper/dipper/Centroids", "count", "J", .long (2 : Int32).toInt64), ("com/example/dipper/dipper/Centroids", "min", "D", .double (FP.i2d p1)), ("com/example/dipper/dipper/Centroids", "max", "D", .double (FP.l2d (p1.toInt64 + ((4 : Int64) * ((p2 &&& (255 : Int32)).toInt64 + (1 : Int64))))))]), (a33, ArC Z .long [.long (1 : Int64), .long (1 : Int64)])] := HJJ.front (i := 2) rfl rfl
            have H43f : Hp Z n0 TJJ.heap [(a38, ObC Z "com/example/dipper/dipper/Centroids" [("com/example/dipper/dipper/Centroids", "means", "[D", .ref a32), ("com/example/dipper/dipper/Centroids", "weights", "[J", .ref a33), ("com/example/dipper/dipper/Centroids", "count", "J", .long (2 : Int32).toInt64), ("com/example/dipper/dipper/Centroids", "min", "D", .double (FP.i2d p1)), ("com/example/dipper/dipper/Centroids", "max", "D", .double (FP.l2d (p1.toInt64 + ((4 : Int64) * ((p2 &&& (255 : Int32)).toInt64 + (1 : Int64))))))]), (a32, ArC Z .double [.double (FP.l2d (p1.toInt64 + ((p2 &&& (255 : Int32)).toInt64 + (1 : Int64)))), .double (FP.l2d (p1.toInt64 + ((2 : Int64) * ((p2 &&& (255 : Int32)).toInt64 + (1 : Int64)))))]), (a33, ArC Z .long [.long (1 : Int64), .long (1 : Int64)])] := H42f.front (i := 1) rfl rfl
            refine g_callV WJJ (argsL := [.int (0 : Int32)]) (st := []) (wd_22 hw) (wd_23 hw) (wd_25 hw) (wd_24 hw) (wd_5 hw) (wd_26 hw) (by decide) (a := a38) H43f (i := 0) rfl (c_mean l Z a0 hw n0 a38 a32 a33 (2 : Int32).toInt64 (FP.i2d p1) (FP.l2d (p1.toInt64 + ((4 : Int64) * ((p2 &&& (255 : Int32)).toInt64 + (1 : Int64))))) [.double (FP.l2d (p1.toInt64 + ((p2 &&& (255 : Int32)).toInt64 + (1 : Int64)))), .double (FP.l2d (p1.toInt64 + ((2 : Int64) * ((p2 &&& (255 : Int32)).toInt64 + (1 : Int64)))))] (2 : Int32) (0 : Int32) (FP.l2d (p1.toInt64 + ((p2 &&& (255 : Int32)).toInt64 + (1 : Int64)))) rfl ⟨fun q => absurd q (by decide), fun _ q => absurd (by decide) q, fun _ _ => ⟨0, by decide, rfl⟩⟩ _ _ H43f) pd_1 rfl rfl rfl at_196 (pc' := 199) rfl (by decide) (Wn := 0) (Nat.le_of_eq rfl) (by decide) (kc' := 3) (ks' := 9) rfl rfl (by decide) (by decide) ?_
            intro T44 v44 W44 hp44
            obtain ⟨rfl, H44⟩ := hp44
            show Goes p e below _ (T44.setTop (mkF m 199 #[.val (.int p0), .val (.int p1), .val (.int p2), .val (.int p3), .val (.int p4), .val (.int (2 : Int32)), .val (.long ((p2 &&& (255 : Int32)).toInt64 + (1 : Int64))), .second, .val (.ref a32), .val (.ref a33), .val (.double (FP.i2d p1)), .second, .val (.double (FP.l2d (p1.toInt64 + ((4 : Int64) * ((p2 &&& (255 : Int32)).toInt64 + (1 : Int64)))))), .second, .val (.ref a38), .val (.int (0 : Int32)), .val (.double (FP.l2d (p1.toInt64 + ((1 : Int32).toInt64 * ((p2 &&& (255 : Int32)).toInt64 + (1 : Int64)))))), .second] [.double (FP.l2d (p1.toInt64 + ((p2 &&& (255 : Int32)).toInt64 + (1 : Int64))))]))
            refine g_dload W44 at_199 (pc' := 201) rfl rfl ?_
            refine g_dcmp W44 at_201 (pc' := 202) rfl rfl ?_
            rw [show (cmpValue (FP.dcmp (FP.l2d (p1.toInt64 + ((p2 &&& (255 : Int32)).toInt64 + (1 : Int64)))) (FP.l2d (p1.toInt64 + ((1 : Int32).toInt64 * ((p2 &&& (255 : Int32)).toInt64 + (1 : Int64)))))) .l) = (0 : Int32) from dcmpV_eq (by rw [show (1 : Int32).toInt64 = (1 : Int64) from by decide, Int64.one_mul]) (l2d_fin _).noNaN .l]
            refine g_if W44 at_202 (pcy := 209) (by decide) (pc' := 205) rfl (fun (h : ¬ (0 : Int32) = (0 : Int32)) => absurd h (by decide)) (fun _ => ?_)
            refine g_iconst W44 at_205 (pc' := 206) rfl (v := (1 : Int32)) (by decide) ?_
            refine g_goto W44 at_206 (pc' := 210) (by decide) ?_
            exact g_zreturn W44 (by decide) at_210 rfl (by decide) (by decide)
          · subst hk
            refine g_iloadN WJJ at_178 (pc' := 179) rfl rfl ?_
            refine g_i2l WJJ at_179 (pc' := 180) rfl rfl ?_
            refine g_iload WJJ at_180 (pc' := 182) rfl rfl ?_
            refine g_iconst WJJ at_182 (pc' := 183) rfl (v := (1 : Int32)) (by decide) ?_
            refine g_iadd WJJ at_183 (pc' := 184) rfl (v := (2 : Int32)) (by decide) ?_
            refine g_i2l WJJ at_184 (pc' := 185) rfl rfl ?_
            refine g_lload WJJ at_185 (pc' := 187) rfl rfl ?_
            refine g_lmul WJJ at_187 (pc' := 188) rfl rfl ?_
            refine g_ladd WJJ at_188 (pc' := 189) rfl rfl ?_
            refine g_l2d WJJ at_189 (pc' := 190) rfl rfl ?_
            refine g_dstore WJJ at_190 (pc' := 192) rfl (ls' := #[.val (.int p0), .val (.int p1), .val (.int p2), .val (.int p3), .val (.int p4), .val (.int (2 : Int32)), .val (.long ((p2 &&& (255 : Int32)).toInt64 + (1 : Int64))), .second, .val (.ref a32), .val (.ref a33), .val (.double (FP.i2d p1)), .second, .val (.double (FP.l2d (p1.toInt64 + ((4 : Int64) * ((p2 &&& (255 : Int32)).toInt64 + (1 : Int64)))))), .second, .val (.ref a38), .val (.int (1 : Int32)), .val (.double (FP.l2d (p1.toInt64 + ((2 : Int32).toInt64 * ((p2 &&& (255 : Int32)).toInt64 + (1 : Int64)))))), .second]) rfl ?_
            refine g_aload WJJ at_192 (pc' := 194) rfl rfl rfl ?_
            refine g_iload WJJ at_194 (pc' := 196) rfl rfl ?_
            have H45f : Hp Z n0 TJJ.heap [(a32, ArC Z .double [.double (FP.l2d (p1.toInt64 + ((p2 &&& (255 : Int32)).toInt64 + (1 : Int64)))), .double (FP.l2d (p1.toInt64 + ((2 : Int64) * ((p2 &&& (255 : Int32)).toInt64 + (1 : Int64)))))]), (a38, ObC Z "com/example/dipper/dipper/Centroids" [("com/example/dipper/dipper/Centroids", "means", "[D", .ref a32), ("com/example/dipper/dipper/Centroids", "weights", "[J", .ref a33), ("com/example/dipper/dipper/Centroids", "count", "J", .long (2 : Int32).toInt64), ("com/example/dipper/dipper/Centroids", "min", "D", .double (FP.i2d p1)), ("com/example/dipper/dipper/Centroids", "max", "D", .double (FP.l2d (p1.toInt64 + ((4 : Int64) * ((p2 &&& (255 : Int32)).toInt64 + (1 : Int64))))))]), (a33, ArC Z .long [.long (1 : Int64), .long (1 : Int64)])] := HJJ.front (i := 2) rfl rfl
            have H46f : Hp Z n0 TJJ.heap [(a38, ObC Z "com/example/dipper/dipper/Centroids" [("com/example/dipper/dipper/Centroids", "means", "[D", .ref a32), ("com/example/dipper/dipper/Centroids", "weights", "[J", .ref a33), ("com/example/dipper/dipper/Centroids", "count", "J", .long (2 : Int32).toInt64), ("com/example/dipper/dipper/Centroids", "min", "D", .double (FP.i2d p1)), ("com/example/dipper/dipper/Centroids", "max", "D", .double (FP.l2d (p1.toInt64 + ((4 : Int64) * ((p2 &&& (255 : Int32)).toInt64 + (1 : Int64))))))]), (a32, ArC Z .double [.double (FP.l2d (p1.toInt64 + ((p2 &&& (255 : Int32)).toInt64 + (1 : Int64)))), .double (FP.l2d (p1.toInt64 + ((2 : Int64) * ((p2 &&& (255 : Int32)).toInt64 + (1 : Int64)))))]), (a33, ArC Z .long [.long (1 : Int64), .long (1 : Int64)])] := H45f.front (i := 1) rfl rfl
            refine g_callV WJJ (argsL := [.int (1 : Int32)]) (st := []) (wd_22 hw) (wd_23 hw) (wd_25 hw) (wd_24 hw) (wd_5 hw) (wd_26 hw) (by decide) (a := a38) H46f (i := 0) rfl (c_mean l Z a0 hw n0 a38 a32 a33 (2 : Int32).toInt64 (FP.i2d p1) (FP.l2d (p1.toInt64 + ((4 : Int64) * ((p2 &&& (255 : Int32)).toInt64 + (1 : Int64))))) [.double (FP.l2d (p1.toInt64 + ((p2 &&& (255 : Int32)).toInt64 + (1 : Int64)))), .double (FP.l2d (p1.toInt64 + ((2 : Int64) * ((p2 &&& (255 : Int32)).toInt64 + (1 : Int64)))))] (2 : Int32) (1 : Int32) (FP.l2d (p1.toInt64 + ((2 : Int64) * ((p2 &&& (255 : Int32)).toInt64 + (1 : Int64))))) rfl ⟨fun q => absurd q (by decide), fun _ q => absurd (by decide) q, fun _ _ => ⟨1, by decide, rfl⟩⟩ _ _ H46f) pd_1 rfl rfl rfl at_196 (pc' := 199) rfl (by decide) (Wn := 0) (Nat.le_of_eq rfl) (by decide) (kc' := 3) (ks' := 9) rfl rfl (by decide) (by decide) ?_
            intro T47 v47 W47 hp47
            obtain ⟨rfl, H47⟩ := hp47
            show Goes p e below _ (T47.setTop (mkF m 199 #[.val (.int p0), .val (.int p1), .val (.int p2), .val (.int p3), .val (.int p4), .val (.int (2 : Int32)), .val (.long ((p2 &&& (255 : Int32)).toInt64 + (1 : Int64))), .second, .val (.ref a32), .val (.ref a33), .val (.double (FP.i2d p1)), .second, .val (.double (FP.l2d (p1.toInt64 + ((4 : Int64) * ((p2 &&& (255 : Int32)).toInt64 + (1 : Int64)))))), .second, .val (.ref a38), .val (.int (1 : Int32)), .val (.double (FP.l2d (p1.toInt64 + ((2 : Int32).toInt64 * ((p2 &&& (255 : Int32)).toInt64 + (1 : Int64)))))), .second] [.double (FP.l2d (p1.toInt64 + ((2 : Int64) * ((p2 &&& (255 : Int32)).toInt64 + (1 : Int64)))))]))
            refine g_dload W47 at_199 (pc' := 201) rfl rfl ?_
            refine g_dcmp W47 at_201 (pc' := 202) rfl rfl ?_
            rw [show (cmpValue (FP.dcmp (FP.l2d (p1.toInt64 + ((2 : Int64) * ((p2 &&& (255 : Int32)).toInt64 + (1 : Int64))))) (FP.l2d (p1.toInt64 + ((2 : Int32).toInt64 * ((p2 &&& (255 : Int32)).toInt64 + (1 : Int64)))))) .l) = (0 : Int32) from dcmpV_eq (by rw [show (2 : Int32).toInt64 = (2 : Int64) from by decide]) (l2d_fin _).noNaN .l]
            refine g_if W47 at_202 (pcy := 209) (by decide) (pc' := 205) rfl (fun (h : ¬ (0 : Int32) = (0 : Int32)) => absurd h (by decide)) (fun _ => ?_)
            refine g_iconst W47 at_205 (pc' := 206) rfl (v := (1 : Int32)) (by decide) ?_
            refine g_goto W47 at_206 (pc' := 210) (by decide) ?_
            exact g_zreturn W47 (by decide) at_210 rfl (by decide) (by decide)
        · refine g_dload WJJ at_171 (pc' := 173) rfl rfl ?_
          refine g_dstore WJJ at_173 (pc' := 175) rfl (ls' := #[.val (.int p0), .val (.int p1), .val (.int p2), .val (.int p3), .val (.int p4), .val (.int (2 : Int32)), .val (.long ((p2 &&& (255 : Int32)).toInt64 + (1 : Int64))), .second, .val (.ref a32), .val (.ref a33), .val (.double (FP.i2d p1)), .second, .val (.double (FP.l2d (p1.toInt64 + ((4 : Int64) * ((p2 &&& (255 : Int32)).toInt64 + (1 : Int64)))))), .second, .val (.ref a38), .val (.int j), .val (.double (FP.l2d (p1.toInt64 + ((4 : Int64) * ((p2 &&& (255 : Int32)).toInt64 + (1 : Int64)))))), .second]) rfl ?_
          refine g_goto WJJ at_175 (pc' := 192) (by decide) ?_
          refine g_aload WJJ at_192 (pc' := 194) rfl rfl rfl ?_
          refine g_iload WJJ at_194 (pc' := 196) rfl rfl ?_
          have H48f : Hp Z n0 TJJ.heap [(a32, ArC Z .double [.double (FP.l2d (p1.toInt64 + ((p2 &&& (255 : Int32)).toInt64 + (1 : Int64)))), .double (FP.l2d (p1.toInt64 + ((2 : Int64) * ((p2 &&& (255 : Int32)).toInt64 + (1 : Int64)))))]), (a38, ObC Z "com/example/dipper/dipper/Centroids" [("com/example/dipper/dipper/Centroids", "means", "[D", .ref a32), ("com/example/dipper/dipper/Centroids", "weights", "[J", .ref a33), ("com/example/dipper/dipper/Centroids", "count", "J", .long (2 : Int32).toInt64), ("com/example/dipper/dipper/Centroids", "min", "D", .double (FP.i2d p1)), ("com/example/dipper/dipper/Centroids", "max", "D", .double (FP.l2d (p1.toInt64 + ((4 : Int64) * ((p2 &&& (255 : Int32)).toInt64 + (1 : Int64))))))]), (a33, ArC Z .long [.long (1 : Int64), .long (1 : Int64)])] := HJJ.front (i := 2) rfl rfl
          have H49f : Hp Z n0 TJJ.heap [(a38, ObC Z "com/example/dipper/dipper/Centroids" [("com/example/dipper/dipper/Centroids", "means", "[D", .ref a32), ("com/example/dipper/dipper/Centroids", "weights", "[J", .ref a33), ("com/example/dipper/dipper/Centroids", "count", "J", .long (2 : Int32).toInt64), ("com/example/dipper/dipper/Centroids", "min", "D", .double (FP.i2d p1)), ("com/example/dipper/dipper/Centroids", "max", "D", .double (FP.l2d (p1.toInt64 + ((4 : Int64) * ((p2 &&& (255 : Int32)).toInt64 + (1 : Int64))))))]), (a32, ArC Z .double [.double (FP.l2d (p1.toInt64 + ((p2 &&& (255 : Int32)).toInt64 + (1 : Int64)))), .double (FP.l2d (p1.toInt64 + ((2 : Int64) * ((p2 &&& (255 : Int32)).toInt64 + (1 : Int64)))))]), (a33, ArC Z .long [.long (1 : Int64), .long (1 : Int64)])] := H48f.front (i := 1) rfl rfl
          refine g_callV WJJ (argsL := [.int j]) (st := []) (wd_22 hw) (wd_23 hw) (wd_25 hw) (wd_24 hw) (wd_5 hw) (wd_26 hw) (by decide) (a := a38) H49f (i := 0) rfl (c_mean l Z a0 hw n0 a38 a32 a33 (2 : Int32).toInt64 (FP.i2d p1) (FP.l2d (p1.toInt64 + ((4 : Int64) * ((p2 &&& (255 : Int32)).toInt64 + (1 : Int64))))) [.double (FP.l2d (p1.toInt64 + ((p2 &&& (255 : Int32)).toInt64 + (1 : Int64)))), .double (FP.l2d (p1.toInt64 + ((2 : Int64) * ((p2 &&& (255 : Int32)).toInt64 + (1 : Int64)))))] (2 : Int32) j (FP.l2d (p1.toInt64 + ((4 : Int64) * ((p2 &&& (255 : Int32)).toInt64 + (1 : Int64))))) rfl ⟨fun q => absurd q c40, fun _ _ => rfl, fun _ q => absurd q c41⟩ _ _ H49f) pd_1 rfl rfl rfl at_196 (pc' := 199) rfl (by decide) (Wn := 0) (Nat.le_of_eq rfl) (by decide) (kc' := 3) (ks' := 9) rfl rfl (by decide) (by decide) ?_
          intro T50 v50 W50 hp50
          obtain ⟨rfl, H50⟩ := hp50
          show Goes p e below _ (T50.setTop (mkF m 199 #[.val (.int p0), .val (.int p1), .val (.int p2), .val (.int p3), .val (.int p4), .val (.int (2 : Int32)), .val (.long ((p2 &&& (255 : Int32)).toInt64 + (1 : Int64))), .second, .val (.ref a32), .val (.ref a33), .val (.double (FP.i2d p1)), .second, .val (.double (FP.l2d (p1.toInt64 + ((4 : Int64) * ((p2 &&& (255 : Int32)).toInt64 + (1 : Int64)))))), .second, .val (.ref a38), .val (.int j), .val (.double (FP.l2d (p1.toInt64 + ((4 : Int64) * ((p2 &&& (255 : Int32)).toInt64 + (1 : Int64)))))), .second] [.double (FP.l2d (p1.toInt64 + ((4 : Int64) * ((p2 &&& (255 : Int32)).toInt64 + (1 : Int64)))))]))
          refine g_dload W50 at_199 (pc' := 201) rfl rfl ?_
          refine g_dcmp W50 at_201 (pc' := 202) rfl rfl ?_
          rw [show (cmpValue (FP.dcmp (FP.l2d (p1.toInt64 + ((4 : Int64) * ((p2 &&& (255 : Int32)).toInt64 + (1 : Int64))))) (FP.l2d (p1.toInt64 + ((4 : Int64) * ((p2 &&& (255 : Int32)).toInt64 + (1 : Int64)))))) .l) = (0 : Int32) from dcmpV_eq rfl (l2d_fin _).noNaN .l]
          refine g_if W50 at_202 (pcy := 209) (by decide) (pc' := 205) rfl (fun (h : ¬ (0 : Int32) = (0 : Int32)) => absurd h (by decide)) (fun _ => ?_)
          refine g_iconst W50 at_205 (pc' := 206) rfl (v := (1 : Int32)) (by decide) ?_
          refine g_goto W50 at_206 (pc' := 210) (by decide) ?_
          exact g_zreturn W50 (by decide) at_210 rfl (by decide) (by decide)
      · replace c40 := Classical.not_not.mp c40
        refine g_dload WJJ at_157 (pc' := 159) rfl rfl ?_
        refine g_dstore WJJ at_159 (pc' := 161) rfl (ls' := #[.val (.int p0), .val (.int p1), .val (.int p2), .val (.int p3), .val (.int p4), .val (.int (2 : Int32)), .val (.long ((p2 &&& (255 : Int32)).toInt64 + (1 : Int64))), .second, .val (.ref a32), .val (.ref a33), .val (.double (FP.i2d p1)), .second, .val (.double (FP.l2d (p1.toInt64 + ((4 : Int64) * ((p2 &&& (255 : Int32)).toInt64 + (1 : Int64)))))), .second, .val (.ref a38), .val (.int j), .val (.double (FP.i2d p1)), .second]) rfl ?_
        refine g_goto WJJ at_161 (pc' := 192) (by decide) ?_
        refine g_aload WJJ at_192 (pc' := 194) rfl rfl rfl ?_
        refine g_iload WJJ at_194 (pc' := 196) rfl rfl ?_
        have H51f : Hp Z n0 TJJ.heap [(a32, ArC Z .double [.double (FP.l2d (p1.toInt64 + ((p2 &&& (255 : Int32)).toInt64 + (1 : Int64)))), .double (FP.l2d (p1.toInt64 + ((2 : Int64) * ((p2 &&& (255 : Int32)).toInt64 + (1 : Int64)))))]), (a38, ObC Z "com/example/dipper/dipper/Centroids" [("com/example/dipper/dipper/Centroids", "means", "[D", .ref a32), ("com/example/dipper/dipper/Centroids", "weights", "[J", .ref a33), ("com/example/dipper/dipper/Centroids", "count", "J", .long (2 : Int32).toInt64), ("com/example/dipper/dipper/Centroids", "min", "D", .double (FP.i2d p1)), ("com/example/dipper/dipper/Centroids", "max", "D", .double (FP.l2d (p1.toInt64 + ((4 : Int64) * ((p2 &&& (255 : Int32)).toInt64 + (1 : Int64))))))]), (a33, ArC Z .long [.long (1 : Int64), .long (1 : Int64)])] := HJJ.front (i := 2) rfl rfl
        have H52f : Hp Z n0 TJJ.heap [(a38, ObC Z "com/example/dipper/dipper/Centroids" [("com/example/dipper/dipper/Centroids", "means", "[D", .ref a32), ("com/example/dipper/dipper/Centroids", "weights", "[J", .ref a33), ("com/example/dipper/dipper/Centroids", "count", "J", .long (2 : Int32).toInt64), ("com/example/dipper/dipper/Centroids", "min", "D", .double (FP.i2d p1)), ("com/example/dipper/dipper/Centroids", "max", "D", .double (FP.l2d (p1.toInt64 + ((4 : Int64) * ((p2 &&& (255 : Int32)).toInt64 + (1 : Int64))))))]), (a32, ArC Z .double [.double (FP.l2d (p1.toInt64 + ((p2 &&& (255 : Int32)).toInt64 + (1 : Int64)))), .double (FP.l2d (p1.toInt64 + ((2 : Int64) * ((p2 &&& (255 : Int32)).toInt64 + (1 : Int64)))))]), (a33, ArC Z .long [.long (1 : Int64), .long (1 : Int64)])] := H51f.front (i := 1) rfl rfl
        refine g_callV WJJ (argsL := [.int j]) (st := []) (wd_22 hw) (wd_23 hw) (wd_25 hw) (wd_24 hw) (wd_5 hw) (wd_26 hw) (by decide) (a := a38) H52f (i := 0) rfl (c_mean l Z a0 hw n0 a38 a32 a33 (2 : Int32).toInt64 (FP.i2d p1) (FP.l2d (p1.toInt64 + ((4 : Int64) * ((p2 &&& (255 : Int32)).toInt64 + (1 : Int64))))) [.double (FP.l2d (p1.toInt64 + ((p2 &&& (255 : Int32)).toInt64 + (1 : Int64)))), .double (FP.l2d (p1.toInt64 + ((2 : Int64) * ((p2 &&& (255 : Int32)).toInt64 + (1 : Int64)))))] (2 : Int32) j (FP.i2d p1) rfl ⟨fun _ => rfl, fun q => absurd c40 q, fun q => absurd c40 q⟩ _ _ H52f) pd_1 rfl rfl rfl at_196 (pc' := 199) rfl (by decide) (Wn := 0) (Nat.le_of_eq rfl) (by decide) (kc' := 3) (ks' := 9) rfl rfl (by decide) (by decide) ?_
        intro T53 v53 W53 hp53
        obtain ⟨rfl, H53⟩ := hp53
        show Goes p e below _ (T53.setTop (mkF m 199 #[.val (.int p0), .val (.int p1), .val (.int p2), .val (.int p3), .val (.int p4), .val (.int (2 : Int32)), .val (.long ((p2 &&& (255 : Int32)).toInt64 + (1 : Int64))), .second, .val (.ref a32), .val (.ref a33), .val (.double (FP.i2d p1)), .second, .val (.double (FP.l2d (p1.toInt64 + ((4 : Int64) * ((p2 &&& (255 : Int32)).toInt64 + (1 : Int64)))))), .second, .val (.ref a38), .val (.int j), .val (.double (FP.i2d p1)), .second] [.double (FP.i2d p1)]))
        refine g_dload W53 at_199 (pc' := 201) rfl rfl ?_
        refine g_dcmp W53 at_201 (pc' := 202) rfl rfl ?_
        rw [show (cmpValue (FP.dcmp (FP.i2d p1) (FP.i2d p1)) .l) = (0 : Int32) from dcmpV_eq rfl (i2d_fin _).noNaN .l]
        refine g_if W53 at_202 (pcy := 209) (by decide) (pc' := 205) rfl (fun (h : ¬ (0 : Int32) = (0 : Int32)) => absurd h (by decide)) (fun _ => ?_)
        refine g_iconst W53 at_205 (pc' := 206) rfl (v := (1 : Int32)) (by decide) ?_
        refine g_goto W53 at_206 (pc' := 210) (by decide) ?_
        exact g_zreturn W53 (by decide) at_210 rfl (by decide) (by decide)
    refine g_if W39 at_137 (pcy := 144) (by decide) (pc' := 140) rfl (fun (c54 : (p4 &&& (1 : Int32)) = (0 : Int32)) => ?_) (fun (c54 : ¬ (p4 &&& (1 : Int32)) = (0 : Int32)) => ?_)
    · refine g_iloadN W39 at_144 (pc' := 145) rfl rfl ?_
      refine g_bipush W39 at_145 (pc' := 147) rfl (v := (6 : Int32)) (by decide) ?_
      refine g_irem W39 at_147 (pc' := 148) rfl (by decide) rfl ?_
      refine g_iconst W39 at_148 (pc' := 149) rfl (v := (1 : Int32)) (by decide) ?_
      refine g_isub W39 at_149 (pc' := 150) rfl rfl ?_
      exact J _ _ W39 H39
    · refine g_iloadN W39 at_140 (pc' := 141) rfl rfl ?_
      refine g_goto W39 at_141 (pc' := 150) (by decide) ?_
      exact J _ _ W39 H39
  · rw [hn]
    refine g_istore W0 at_3 (pc' := 5) rfl (ls' := #[.val (.int p0), .val (.int p1), .val (.int p2), .val (.int p3), .val (.int p4), .val (.int (3 : Int32)), .unset, .unset, .unset, .unset, .unset, .unset, .unset, .unset, .unset, .unset, .unset, .unset]) rfl ?_
    refine g_iloadN W0 at_5 (pc' := 6) rfl rfl ?_
    refine g_sipush W0 at_6 (pc' := 9) rfl (v := (255 : Int32)) (by decide) ?_
    refine g_iand W0 at_9 (pc' := 10) rfl rfl ?_
    refine g_i2l W0 at_10 (pc' := 11) rfl rfl ?_
    refine g_lconst W0 at_11 (pc' := 12) rfl (v := (1 : Int64)) (by decide) ?_
    refine g_ladd W0 at_12 (pc' := 13) rfl rfl ?_
    refine g_lstore W0 at_13 (pc' := 15) rfl (ls' := #[.val (.int p0), .val (.int p1), .val (.int p2), .val (.int p3), .val (.int p4), .val (.int (3 : Int32)), .val (.long ((p2 &&& (255 : Int32)).toInt64 + (1 : Int64))), .second, .unset, .unset, .unset, .unset, .unset, .unset, .unset, .unset, .unset, .unset]) rfl ?_
    refine g_iload W0 at_15 (pc' := 17) rfl rfl ?_
    refine g_newarr (aty := .double) W0 (wd_0 hw) H0 (by decide) (vs := [.double 0, .double 0, .double 0]) rfl (cap := 3) (Nat.le_of_eq rfl) (by decide) at_17 (pc' := 19) rfl (kc' := 1) (ks' := 3) rfl rfl (by decide) (by decide) ?_
    intro T55 a55 W55 H55
    replace H55 : Hp Z n0 T55.heap [(a55, ArC Z .double [.double 0, .double 0, .double 0])] := H55
    refine g_astore W55 at_19 (pc' := 21) rfl rfl (ls' := #[.val (.int p0), .val (.int p1), .val (.int p2), .val (.int p3), .val (.int p4), .val (.int (3 : Int32)), .val (.long ((p2 &&& (255 : Int32)).toInt64 + (1 : Int64))), .second, .val (.ref a55), .unset, .unset, .unset, .unset, .unset, .unset, .unset, .unset, .unset]) rfl ?_
    refine g_iload W55 at_21 (pc' := 23) rfl rfl ?_
    refine g_newarr (aty := .long) W55 (wd_1 hw) H55 (by decide) (vs := [.long 0, .long 0, .long 0]) rfl (cap := 3) (Nat.le_of_eq rfl) (by decide) at_23 (pc' := 25) rfl (kc' := 2) (ks' := 6) rfl rfl (by decide) (by decide) ?_
    intro T56 a56 W56 H56
    replace H56 : Hp Z n0 T56.heap [(a56, ArC Z .long [.long 0, .long 0, .long 0]), (a55, ArC Z .double [.double 0, .double 0, .double 0])] := H56
    refine g_astore W56 at_25 (pc' := 27) rfl rfl (ls' := #[.val (.int p0), .val (.int p1), .val (.int p2), .val (.int p3), .val (.int p4), .val (.int (3 : Int32)), .val (.long ((p2 &&& (255 : Int32)).toInt64 + (1 : Int64))), .second, .val (.ref a55), .val (.ref a56), .unset, .unset, .unset, .unset, .unset, .unset, .unset, .unset]) rfl ?_
    refine g_iload W56 at_27 (pc' := 29) rfl rfl ?_
    refine g_if W56 at_29 (pcy := 47) (by decide) (pc' := 32) rfl (fun (h : ¬ (0 : Int32) < (3 : Int32)) => absurd h (by decide)) (fun _ => ?_)
    refine g_aload W56 at_32 (pc' := 34) rfl rfl rfl ?_
    refine g_iconst W56 at_34 (pc' := 35) rfl (v := (0 : Int32)) (by decide) ?_
    refine g_iloadN W56 at_35 (pc' := 36) rfl rfl ?_
    refine g_i2l W56 at_36 (pc' := 37) rfl rfl ?_
    refine g_lload W56 at_37 (pc' := 39) rfl rfl ?_
    refine g_ladd W56 at_39 (pc' := 40) rfl rfl ?_
    refine g_l2d W56 at_40 (pc' := 41) rfl rfl ?_
    refine g_dastore W56 H56 (i := 1) rfl (jx := 0) (by decide) (by exact (by decide : 0 < 3)) at_41 (pc' := 42) rfl (L' := [(a56, ArC Z .long [.long 0, .long 0, .long 0]), (a55, ArC Z .double [.double (FP.l2d (p1.toInt64 + ((p2 &&& (255 : Int32)).toInt64 + (1 : Int64)))), .double 0, .double 0])]) rfl ?_
    intro T57 W57 H57
    refine g_aload W57 at_42 (pc' := 44) rfl rfl rfl ?_
    refine g_iconst W57 at_44 (pc' := 45) rfl (v := (0 : Int32)) (by decide) ?_
    refine g_lconst W57 at_45 (pc' := 46) rfl (v := (1 : Int64)) (by decide) ?_
    refine g_lastore W57 H57 (i := 0) rfl (jx := 0) (by decide) (by exact (by decide : 0 < 3)) at_46 (pc' := 47) rfl (L' := [(a56, ArC Z .long [.long (1 : Int64), .long 0, .long 0]), (a55, ArC Z .double [.double (FP.l2d (p1.toInt64 + ((p2 &&& (255 : Int32)).toInt64 + (1 : Int64)))), .double 0, .double 0])]) rfl ?_
    intro T58 W58 H58
    refine g_iload W58 at_47 (pc' := 49) rfl rfl ?_
    refine g_iconst W58 at_49 (pc' := 50) rfl (v := (1 : Int32)) (by decide) ?_
    refine g_icmp W58 at_50 (pcy := 72) (by decide) (pc' := 53) rfl (fun (h : ¬ (1 : Int32) < (3 : Int32)) => absurd h (by decide)) (fun _ => ?_)
    refine g_aload W58 at_53 (pc' := 55) rfl rfl rfl ?_
    refine g_iconst W58 at_55 (pc' := 56) rfl (v := (1 : Int32)) (by decide) ?_
    refine g_iloadN W58 at_56 (pc' := 57) rfl rfl ?_
    refine g_i2l W58 at_57 (pc' := 58) rfl rfl ?_
    refine g_ldc2Long W58 (wd_27 hw) at_58 (pc' := 61) rfl ?_
    refine g_lload W58 at_61 (pc' := 63) rfl rfl ?_
    refine g_lmul W58 at_63 (pc' := 64) rfl rfl ?_
    refine g_ladd W58 at_64 (pc' := 65) rfl rfl ?_
    refine g_l2d W58 at_65 (pc' := 66) rfl rfl ?_
    refine g_dastore W58 H58 (i := 1) rfl (jx := 1) (by decide) (by exact (by decide : 1 < 3)) at_66 (pc' := 67) rfl (L' := [(a56, ArC Z .long [.long (1 : Int64), .long 0, .long 0]), (a55, ArC Z .double [.double (FP.l2d (p1.toInt64 + ((p2 &&& (255 : Int32)).toInt64 + (1 : Int64)))), .double (FP.l2d (p1.toInt64 + ((2 : Int64) * ((p2 &&& (255 : Int32)).toInt64 + (1 : Int64))))), .double 0])]) rfl ?_
    intro T59 W59 H59
    refine g_aload W59 at_67 (pc' := 69) rfl rfl rfl ?_
    refine g_iconst W59 at_69 (pc' := 70) rfl (v := (1 : Int32)) (by decide) ?_
    refine g_lconst W59 at_70 (pc' := 71) rfl (v := (1 : Int64)) (by decide) ?_
    refine g_lastore W59 H59 (i := 0) rfl (jx := 1) (by decide) (by exact (by decide : 1 < 3)) at_71 (pc' := 72) rfl (L' := [(a56, ArC Z .long [.long (1 : Int64), .long (1 : Int64), .long 0]), (a55, ArC Z .double [.double (FP.l2d (p1.toInt64 + ((p2 &&& (255 : Int32)).toInt64 + (1 : Int64)))), .double (FP.l2d (p1.toInt64 + ((2 : Int64) * ((p2 &&& (255 : Int32)).toInt64 + (1 : Int64))))), .double 0])]) rfl ?_
    intro T60 W60 H60
    refine g_iload W60 at_72 (pc' := 74) rfl rfl ?_
    refine g_iconst W60 at_74 (pc' := 75) rfl (v := (2 : Int32)) (by decide) ?_
    refine g_icmp W60 at_75 (pcy := 97) (by decide) (pc' := 78) rfl (fun (h : ¬ (2 : Int32) < (3 : Int32)) => absurd h (by decide)) (fun _ => ?_)
    refine g_aload W60 at_78 (pc' := 80) rfl rfl rfl ?_
    refine g_iconst W60 at_80 (pc' := 81) rfl (v := (2 : Int32)) (by decide) ?_
    refine g_iloadN W60 at_81 (pc' := 82) rfl rfl ?_
    refine g_i2l W60 at_82 (pc' := 83) rfl rfl ?_
    refine g_ldc2Long W60 (wd_28 hw) at_83 (pc' := 86) rfl ?_
    refine g_lload W60 at_86 (pc' := 88) rfl rfl ?_
    refine g_lmul W60 at_88 (pc' := 89) rfl rfl ?_
    refine g_ladd W60 at_89 (pc' := 90) rfl rfl ?_
    refine g_l2d W60 at_90 (pc' := 91) rfl rfl ?_
    refine g_dastore W60 H60 (i := 1) rfl (jx := 2) (by decide) (by exact (by decide : 2 < 3)) at_91 (pc' := 92) rfl (L' := [(a56, ArC Z .long [.long (1 : Int64), .long (1 : Int64), .long 0]), (a55, ArC Z .double [.double (FP.l2d (p1.toInt64 + ((p2 &&& (255 : Int32)).toInt64 + (1 : Int64)))), .double (FP.l2d (p1.toInt64 + ((2 : Int64) * ((p2 &&& (255 : Int32)).toInt64 + (1 : Int64))))), .double (FP.l2d (p1.toInt64 + ((3 : Int64) * ((p2 &&& (255 : Int32)).toInt64 + (1 : Int64)))))])]) rfl ?_
    intro T61 W61 H61
    refine g_aload W61 at_92 (pc' := 94) rfl rfl rfl ?_
    refine g_iconst W61 at_94 (pc' := 95) rfl (v := (2 : Int32)) (by decide) ?_
    refine g_lconst W61 at_95 (pc' := 96) rfl (v := (1 : Int64)) (by decide) ?_
    refine g_lastore W61 H61 (i := 0) rfl (jx := 2) (by decide) (by exact (by decide : 2 < 3)) at_96 (pc' := 97) rfl (L' := [(a56, ArC Z .long [.long (1 : Int64), .long (1 : Int64), .long (1 : Int64)]), (a55, ArC Z .double [.double (FP.l2d (p1.toInt64 + ((p2 &&& (255 : Int32)).toInt64 + (1 : Int64)))), .double (FP.l2d (p1.toInt64 + ((2 : Int64) * ((p2 &&& (255 : Int32)).toInt64 + (1 : Int64))))), .double (FP.l2d (p1.toInt64 + ((3 : Int64) * ((p2 &&& (255 : Int32)).toInt64 + (1 : Int64)))))])]) rfl ?_
    intro T62 W62 H62
    refine g_iloadN W62 at_97 (pc' := 98) rfl rfl ?_
    refine g_i2d W62 at_98 (pc' := 99) rfl rfl ?_
    refine g_dstore W62 at_99 (pc' := 101) rfl (ls' := #[.val (.int p0), .val (.int p1), .val (.int p2), .val (.int p3), .val (.int p4), .val (.int (3 : Int32)), .val (.long ((p2 &&& (255 : Int32)).toInt64 + (1 : Int64))), .second, .val (.ref a55), .val (.ref a56), .val (.double (FP.i2d p1)), .second, .unset, .unset, .unset, .unset, .unset, .unset]) rfl ?_
    refine g_iloadN W62 at_101 (pc' := 102) rfl rfl ?_
    refine g_i2l W62 at_102 (pc' := 103) rfl rfl ?_
    refine g_ldc2Long W62 (wd_2 hw) at_103 (pc' := 106) rfl ?_
    refine g_lload W62 at_106 (pc' := 108) rfl rfl ?_
    refine g_lmul W62 at_108 (pc' := 109) rfl rfl ?_
    refine g_ladd W62 at_109 (pc' := 110) rfl rfl ?_
    refine g_l2d W62 at_110 (pc' := 111) rfl rfl ?_
    refine g_dstore W62 at_111 (pc' := 113) rfl (ls' := #[.val (.int p0), .val (.int p1), .val (.int p2), .val (.int p3), .val (.int p4), .val (.int (3 : Int32)), .val (.long ((p2 &&& (255 : Int32)).toInt64 + (1 : Int64))), .second, .val (.ref a55), .val (.ref a56), .val (.double (FP.i2d p1)), .second, .val (.double (FP.l2d (p1.toInt64 + ((4 : Int64) * ((p2 &&& (255 : Int32)).toInt64 + (1 : Int64)))))), .second, .unset, .unset, .unset, .unset]) rfl ?_
    refine g_new W62 (wd_3 hw) (wd_4 hw) (wd_5 hw) (la_Centroids hw) (by decide) H62 at_113 (pc' := 116) rfl (kc' := 3) (ks' := 11) rfl rfl (by decide) (by decide) ?_
    intro T63 a63 W63 H63
    refine g_dup W63 at_116 (pc' := 117) rfl rfl ?_
    refine g_aload W63 at_117 (pc' := 119) rfl rfl rfl ?_
    refine g_aload W63 at_119 (pc' := 121) rfl rfl rfl ?_
    refine g_iload W63 at_121 (pc' := 123) rfl rfl ?_
    refine g_i2l W63 at_123 (pc' := 124) rfl rfl ?_
    refine g_dload W63 at_124 (pc' := 126) rfl rfl ?_
    refine g_dload W63 at_126 (pc' := 128) rfl rfl ?_
    refine g_callI W63 (argsL := [.ref a55, .ref a56, .long (3 : Int32).toInt64, .double (FP.i2d p1), .double (FP.l2d (p1.toInt64 + ((4 : Int64) * ((p2 &&& (255 : Int32)).toInt64 + (1 : Int64)))))]) (st := [.ref a63]) rfl (wd_6 hw) (wd_7 hw) (wd_5 hw) (wd_8 hw) (by decide) (a := a63) (c_init l Z a0 hw n0 a63 a55 a56 (3 : Int32).toInt64 (FP.i2d p1) (FP.l2d (p1.toInt64 + ((4 : Int64) * ((p2 &&& (255 : Int32)).toInt64 + (1 : Int64))))) _ _ H63) pd_0 rfl rfl rfl at_128 (pc' := 131) rfl (by decide) (Wn := 1) (Nat.le_of_eq rfl) (by decide) (kc' := 3) (ks' := 11) rfl rfl (by decide) (by decide) ?_
    intro T64 v64 W64 hp64
    obtain ⟨rfl, H64⟩ := hp64
    show Goes p e below _ (T64.setTop (mkF m 131 #[.val (.int p0), .val (.int p1), .val (.int p2), .val (.int p3), .val (.int p4), .val (.int (3 : Int32)), .val (.long ((p2 &&& (255 : Int32)).toInt64 + (1 : Int64))), .second, .val (.ref a55), .val (.ref a56), .val (.double (FP.i2d p1)), .second, .val (.double (FP.l2d (p1.toInt64 + ((4 : Int64) * ((p2 &&& (255 : Int32)).toInt64 + (1 : Int64)))))), .second, .unset, .unset, .unset, .unset] [.ref a63]))
    refine g_astore W64 at_131 (pc' := 133) rfl rfl (ls' := #[.val (.int p0), .val (.int p1), .val (.int p2), .val (.int p3), .val (.int p4), .val (.int (3 : Int32)), .val (.long ((p2 &&& (255 : Int32)).toInt64 + (1 : Int64))), .second, .val (.ref a55), .val (.ref a56), .val (.double (FP.i2d p1)), .second, .val (.double (FP.l2d (p1.toInt64 + ((4 : Int64) * ((p2 &&& (255 : Int32)).toInt64 + (1 : Int64)))))), .second, .val (.ref a63), .unset, .unset, .unset]) rfl ?_
    refine g_iload W64 at_133 (pc' := 135) rfl rfl ?_
    refine g_iconst W64 at_135 (pc' := 136) rfl (v := (1 : Int32)) (by decide) ?_
    refine g_iand W64 at_136 (pc' := 137) rfl rfl ?_
    have J : ∀ (TJJ : State) (j : Int32), Wk Z x code maxLocals ret n0 p l e room_1 s m #[.int p0, .int p1, .int p2, .int p3, .int p4] below meth c TJJ 3 11 → Hp Z n0 TJJ.heap [(a63, ObC Z "com/example/dipper/dipper/Centroids" [("com/example/dipper/dipper/Centroids", "means", "[D", .ref a55), ("com/example/dipper/dipper/Centroids", "weights", "[J", .ref a56), ("com/example/dipper/dipper/Centroids", "count", "J", .long (3 : Int32).toInt64), ("com/example/dipper/dipper/Centroids", "min", "D", .double (FP.i2d p1)), ("com/example/dipper/dipper/Centroids", "max", "D", .double (FP.l2d (p1.toInt64 + ((4 : Int64) * ((p2 &&& (255 : Int32)).toInt64 + (1 : Int64))))))]), (a56, ArC Z .long [.long (1 : Int64), .long (1 : Int64), .long (1 : Int64)]), (a55, ArC Z .double [.double (FP.l2d (p1.toInt64 + ((p2 &&& (255 : Int32)).toInt64 + (1 : Int64)))), .double (FP.l2d (p1.toInt64 + ((2 : Int64) * ((p2 &&& (255 : Int32)).toInt64 + (1 : Int64))))), .double (FP.l2d (p1.toInt64 + ((3 : Int64) * ((p2 &&& (255 : Int32)).toInt64 + (1 : Int64)))))])] → Goes p e below (En s n0 (Room.cells room_1) (Room.slots room_1) (fun v _ => v = some (.int 1))) (TJJ.setTop (mkF m 150 #[.val (.int p0), .val (.int p1), .val (.int p2), .val (.int p3), .val (.int p4), .val (.int (3 : Int32)), .val (.long ((p2 &&& (255 : Int32)).toInt64 + (1 : Int64))), .second, .val (.ref a55), .val (.ref a56), .val (.double (FP.i2d p1)), .second, .val (.double (FP.l2d (p1.toInt64 + ((4 : Int64) * ((p2 &&& (255 : Int32)).toInt64 + (1 : Int64)))))), .second, .val (.ref a63), .unset, .unset, .unset] [.int j])) := by
      intro TJJ j WJJ HJJ
      refine g_istore WJJ at_150 (pc' := 152) rfl (ls' := #[.val (.int p0), .val (.int p1), .val (.int p2), .val (.int p3), .val (.int p4), .val (.int (3 : Int32)), .val (.long ((p2 &&& (255 : Int32)).toInt64 + (1 : Int64))), .second, .val (.ref a55), .val (.ref a56), .val (.double (FP.i2d p1)), .second, .val (.double (FP.l2d (p1.toInt64 + ((4 : Int64) * ((p2 &&& (255 : Int32)).toInt64 + (1 : Int64)))))), .second, .val (.ref a63), .val (.int j), .unset, .unset]) rfl ?_
      refine g_iload WJJ at_152 (pc' := 154) rfl rfl ?_
      refine g_if WJJ at_154 (pcy := 164) (by decide) (pc' := 157) rfl (fun (c65 : ¬ j < (0 : Int32)) => ?_) (fun (c65 : ¬ ¬ j < (0 : Int32)) => ?_)
      · refine g_iload WJJ at_164 (pc' := 166) rfl rfl ?_
        refine g_iload WJJ at_166 (pc' := 168) rfl rfl ?_
        refine g_icmp WJJ at_168 (pcy := 178) (by decide) (pc' := 171) rfl (fun (c66 : j < (3 : Int32)) => ?_) (fun (c66 : ¬ j < (3 : Int32)) => ?_)
        · rcases lt3 c65 c66 with hk | hk | hk
          · subst hk
            refine g_iloadN WJJ at_178 (pc' := 179) rfl rfl ?_
            refine g_i2l WJJ at_179 (pc' := 180) rfl rfl ?_
            refine g_iload WJJ at_180 (pc' := 182) rfl rfl ?_
            refine g_iconst WJJ at_182 (pc' := 183) rfl (v := (1 : Int32)) (by decide) ?_
            refine g_iadd WJJ at_183 (pc' := 184) rfl (v := (1 : Int32)) (by decide) ?_
            refine g_i2l WJJ at_184 (pc' := 185) rfl rfl ?_
            refine g_lload WJJ at_185 (pc' := 187) rfl rfl ?_
            refine g_lmul WJJ at_187 (pc' := 188) rfl rfl ?_
            refine g_ladd WJJ at_188 (pc' := 189) rfl rfl ?_
            refine g_l2d WJJ at_189 (pc' := 190) rfl rfl ?_
            refine g_dstore WJJ at_190 (pc' := 192) rfl (ls' := #[.val (.int p0), .val (.int p1), .val (.int p2), .val (.int p3), .val (.int p4), .val (.int (3 : Int32)), .val (.long ((p2 &&& (255 : Int32)).toInt64 + (1 : Int64))), .second, .val (.ref a55), .val (.ref a56), .val (.double (FP.i2d p1)), .second, .val (.double (FP.l2d (p1.toInt64 + ((4 : Int64) * ((p2 &&& (255 : Int32)).toInt64 + (1 : Int64)))))), .second, .val (.ref a63), .val (.int (0 : Int32)), .val (.double (FP.l2d (p1.toInt64 + ((1 : Int32).toInt64 * ((p2 &&& (255 : Int32)).toInt64 + (1 : Int64)))))), .second]) rfl ?_
            refine g_aload WJJ at_192 (pc' := 194) rfl rfl rfl ?_
            refine g_iload WJJ at_194 (pc' := 196) rfl rfl ?_
            have H67f : Hp Z n0 TJJ.heap [(a55, ArC Z .double [.double (FP.l2d (p1.toInt64 + ((p2 &&& (255 : Int32)).toInt64 + (1 : Int64)))), .double (FP.l2d (p1.toInt64 + ((2 : Int64) * ((p2 &&& (255 : Int32)).toInt64 + (1 : Int64))))), .double (FP.l2d (p1.toInt64 + ((3 : Int64) * ((p2 &&& (255 : Int32)).toInt64 + (1 : Int64)))))]), (a63, ObC Z "com/example/dipper/dipper/Centroids" [("com/example/dipper/dipper/Centroids", "means", "[D", .ref a55), ("com/example/dipper/dipper/Centroids", "weights", "[J", .ref a56), ("com/example/dipper/dipper/Centroids", "count", "J", .long (3 : Int32).toInt64), ("com/example/dipper/dipper/Centroids", "min", "D", .double (FP.i2d p1)), ("com/example/dipper/dipper/Centroids", "max", "D", .double (FP.l2d (p1.toInt64 + ((4 : Int64) * ((p2 &&& (255 : Int32)).toInt64 + (1 : Int64))))))]), (a56, ArC Z .long [.long (1 : Int64), .long (1 : Int64), .long (1 : Int64)])] := HJJ.front (i := 2) rfl rfl
            have H68f : Hp Z n0 TJJ.heap [(a63, ObC Z "com/example/dipper/dipper/Centroids" [("com/example/dipper/dipper/Centroids", "means", "[D", .ref a55), ("com/example/dipper/dipper/Centroids", "weights", "[J", .ref a56), ("com/example/dipper/dipper/Centroids", "count", "J", .long (3 : Int32).toInt64), ("com/example/dipper/dipper/Centroids", "min", "D", .double (FP.i2d p1)), ("com/example/dipper/dipper/Centroids", "max", "D", .double (FP.l2d (p1.toInt64 + ((4 : Int64) * ((p2 &&& (255 : Int32)).toInt64 + (1 : Int64))))))]), (a55, ArC Z .double [.double (FP.l2d (p1.toInt64 + ((p2 &&& (255 : Int32)).toInt64 + (1 : Int64)))), .double (FP.l2d (p1.toInt64 + ((2 : Int64) * ((p2 &&& (255 : Int32)).toInt64 + (1 : Int64))))), .double (FP.l2d (p1.toInt64 + ((3 : Int64) * ((p2 &&& (255 : Int32)).toInt64 + (1 : Int64)))))]), (a56, ArC Z .long [.long (1 : Int64), .long (1 : Int64), .long (1 : Int64)])] := H67f.front (i := 1) rfl rfl
            refine g_callV WJJ (argsL := [.int (0 : Int32)]) (st := []) (wd_22 hw) (wd_23 hw) (wd_25 hw) (wd_24 hw) (wd_5 hw) (wd_26 hw) (by decide) (a := a63) H68f (i := 0) rfl (c_mean l Z a0 hw n0 a63 a55 a56 (3 : Int32).toInt64 (FP.i2d p1) (FP.l2d (p1.toInt64 + ((4 : Int64) * ((p2 &&& (255 : Int32)).toInt64 + (1 : Int64))))) [.double (FP.l2d (p1.toInt64 + ((p2 &&& (255 : Int32)).toInt64 + (1 : Int64)))), .double (FP.l2d (p1.toInt64 + ((2 : Int64) * ((p2 &&& (255 : Int32)).toInt64 + (1 : Int64))))), .double (FP.l2d (p1.toInt64 + ((3 : Int64) * ((p2 &&& (255 : Int32)).toInt64 + (1 : Int64)))))] (3 : Int32) (0 : Int32) (FP.l2d (p1.toInt64 + ((p2 &&& (255 : Int32)).toInt64 + (1 : Int64)))) rfl ⟨fun q => absurd q (by decide), fun _ q => absurd (by decide) q, fun _ _ => ⟨0, by decide, rfl⟩⟩ _ _ H68f) pd_1 rfl rfl rfl at_196 (pc' := 199) rfl (by decide) (Wn := 0) (Nat.le_of_eq rfl) (by decide) (kc' := 3) (ks' := 11) rfl rfl (by decide) (by decide) ?_
            intro T69 v69 W69 hp69
            obtain ⟨rfl, H69⟩ := hp69
            show Goes p e below _ (T69.setTop (mkF m 199 #[.val (.int p0), .val (.int p1), .val (.int p2), .val (.int p3), .val (.int p4), .val (.int (3 : Int32)), .val (.long ((p2 &&& (255 : Int32)).toInt64 + (1 : Int64))), .second, .val (.ref a55), .val (.ref a56), .val (.double (FP.i2d p1)), .second, .val (.double (FP.l2d (p1.toInt64 + ((4 : Int64) * ((p2 &&& (255 : Int32)).toInt64 + (1 : Int64)))))), .second, .val (.ref a63), .val (.int (0 : Int32)), .val (.double (FP.l2d (p1.toInt64 + ((1 : Int32).toInt64 * ((p2 &&& (255 : Int32)).toInt64 + (1 : Int64)))))), .second] [.double (FP.l2d (p1.toInt64 + ((p2 &&& (255 : Int32)).toInt64 + (1 : Int64))))]))
            refine g_dload W69 at_199 (pc' := 201) rfl rfl ?_
            refine g_dcmp W69 at_201 (pc' := 202) rfl rfl ?_
            rw [show (cmpValue (FP.dcmp (FP.l2d (p1.toInt64 + ((p2 &&& (255 : Int32)).toInt64 + (1 : Int64)))) (FP.l2d (p1.toInt64 + ((1 : Int32).toInt64 * ((p2 &&& (255 : Int32)).toInt64 + (1 : Int64)))))) .l) = (0 : Int32) from dcmpV_eq (by rw [show (1 : Int32).toInt64 = (1 : Int64) from by decide, Int64.one_mul]) (l2d_fin _).noNaN .l]
            refine g_if W69 at_202 (pcy := 209) (by decide) (pc' := 205) rfl (fun (h : ¬ (0 : Int32) = (0 : Int32)) => absurd h (by decide)) (fun _ => ?_)
            refine g_iconst W69 at_205 (pc' := 206) rfl (v := (1 : Int32)) (by decide) ?_
            refine g_goto W69 at_206 (pc' := 210) (by decide) ?_
            exact g_zreturn W69 (by decide) at_210 rfl (by decide) (by decide)
          · subst hk
            refine g_iloadN WJJ at_178 (pc' := 179) rfl rfl ?_
            refine g_i2l WJJ at_179 (pc' := 180) rfl rfl ?_
            refine g_iload WJJ at_180 (pc' := 182) rfl rfl ?_
            refine g_iconst WJJ at_182 (pc' := 183) rfl (v := (1 : Int32)) (by decide) ?_
            refine g_iadd WJJ at_183 (pc' := 184) rfl (v := (2 : Int32)) (by decide) ?_
            refine g_i2l WJJ at_184 (pc' := 185) rfl rfl ?_
            refine g_lload WJJ at_185 (pc' := 187) rfl rfl ?_
            refine g_lmul WJJ at_187 (pc' := 188) rfl rfl ?_
            refine g_ladd WJJ at_188 (pc' := 189) rfl rfl ?_
            refine g_l2d WJJ at_189 (pc' := 190) rfl rfl ?_
            refine g_dstore WJJ at_190 (pc' := 192) rfl (ls' := #[.val (.int p0), .val (.int p1), .val (.int p2), .val (.int p3), .val (.int p4), .val (.int (3 : Int32)), .val (.long ((p2 &&& (255 : Int32)).toInt64 + (1 : Int64))), .second, .val (.ref a55), .val (.ref a56), .val (.double (FP.i2d p1)), .second, .val (.double (FP.l2d (p1.toInt64 + ((4 : Int64) * ((p2 &&& (255 : Int32)).toInt64 + (1 : Int64)))))), .second, .val (.ref a63), .val (.int (1 : Int32)), .val (.double (FP.l2d (p1.toInt64 + ((2 : Int32).toInt64 * ((p2 &&& (255 : Int32)).toInt64 + (1 : Int64)))))), .second]) rfl ?_
            refine g_aload WJJ at_192 (pc' := 194) rfl rfl rfl ?_
            refine g_iload WJJ at_194 (pc' := 196) rfl rfl ?_
            have H70f : Hp Z n0 TJJ.heap [(a55, ArC Z .double [.double (FP.l2d (p1.toInt64 + ((p2 &&& (255 : Int32)).toInt64 + (1 : Int64)))), .double (FP.l2d (p1.toInt64 + ((2 : Int64) * ((p2 &&& (255 : Int32)).toInt64 + (1 : Int64))))), .double (FP.l2d (p1.toInt64 + ((3 : Int64) * ((p2 &&& (255 : Int32)).toInt64 + (1 : Int64)))))]), (a63, ObC Z "com/example/dipper/dipper/Centroids" [("com/example/dipper/dipper/Centroids", "means", "[D", .ref a55), ("com/example/dipper/dipper/Centroids", "weights", "[J", .ref a56), ("com/example/dipper/dipper/Centroids", "count", "J", .long (3 : Int32).toInt64), ("com/example/dipper/dipper/Centroids", "min", "D", .double (FP.i2d p1)), ("com/example/dipper/dipper/Centroids", "max", "D", .double (FP.l2d (p1.toInt64 + ((4 : Int64) * ((p2 &&& (255 : Int32)).toInt64 + (1 : Int64))))))]), (a56, ArC Z .long [.long (1 : Int64), .long (1 : Int64), .long (1 : Int64)])] := HJJ.front (i := 2) rfl rfl
            have H71f : Hp Z n0 TJJ.heap [(a63, ObC Z "com/example/dipper/dipper/Centroids" [("com/example/dipper/dipper/Centroids", "means", "[D", .ref a55), ("com/example/dipper/dipper/Centroids", "weights", "[J", .ref a56), ("com/example/dipper/dipper/Centroids", "count", "J", .long (3 : Int32).toInt64), ("com/example/dipper/dipper/Centroids", "min", "D", .double (FP.i2d p1)), ("com/example/dipper/dipper/Centroids", "max", "D", .double (FP.l2d (p1.toInt64 + ((4 : Int64) * ((p2 &&& (255 : Int32)).toInt64 + (1 : Int64))))))]), (a55, ArC Z .double [.double (FP.l2d (p1.toInt64 + ((p2 &&& (255 : Int32)).toInt64 + (1 : Int64)))), .double (FP.l2d (p1.toInt64 + ((2 : Int64) * ((p2 &&& (255 : Int32)).toInt64 + (1 : Int64))))), .double (FP.l2d (p1.toInt64 + ((3 : Int64) * ((p2 &&& (255 : Int32)).toInt64 + (1 : Int64)))))]), (a56, ArC Z .long [.long (1 : Int64), .long (1 : Int64), .long (1 : Int64)])] := H70f.front (i := 1) rfl rfl
            refine g_callV WJJ (argsL := [.int (1 : Int32)]) (st := []) (wd_22 hw) (wd_23 hw) (wd_25 hw) (wd_24 hw) (wd_5 hw) (wd_26 hw) (by decide) (a := a63) H71f (i := 0) rfl (c_mean l Z a0 hw n0 a63 a55 a56 (3 : Int32).toInt64 (FP.i2d p1) (FP.l2d (p1.toInt64 + ((4 : Int64) * ((p2 &&& (255 : Int32)).toInt64 + (1 : Int64))))) [.double (FP.l2d (p1.toInt64 + ((p2 &&& (255 : Int32)).toInt64 + (1 : Int64)))), .double (FP.l2d (p1.toInt64 + ((2 : Int64) * ((p2 &&& (255 : Int32)).toInt64 + (1 : Int64))))), .double (FP.l2d (p1.toInt64 + ((3 : Int64) * ((p2 &&& (255 : Int32)).toInt64 + (1 : Int64)))))] (3 : Int32) (1 : Int32) (FP.l2d (p1.toInt64 + ((2 : Int64) * ((p2 &&& (255 : Int32)).toInt64 + (1 : Int64))))) rfl ⟨fun q => absurd q (by decide), fun _ q => absurd (by decide) q, fun _ _ => ⟨1, by decide, rfl⟩⟩ _ _ H71f) pd_1 rfl rfl rfl at_196 (pc' := 199) rfl (by decide) (Wn := 0) (Nat.le_of_eq rfl) (by decide) (kc' := 3) (ks' := 11) rfl rfl (by decide) (by decide) ?_
            intro T72 v72 W72 hp72
            obtain ⟨rfl, H72⟩ := hp72
            show Goes p e below _ (T72.setTop (mkF m 199 #[.val (.int p0), .val (.int p1), .val (.int p2), .val (.int p3), .val (.int p4), .val (.int (3 : Int32)), .val (.long ((p2 &&& (255 : Int32)).toInt64 + (1 : Int64))), .second, .val (.ref a55), .val (.ref a56), .val (.double (FP.i2d p1)), .second, .val (.double (FP.l2d (p1.toInt64 + ((4 : Int64) * ((p2 &&& (255 : Int32)).toInt64 + (1 : Int64)))))), .second, .val (.ref a63), .val (.int (1 : Int32)), .val (.double (FP.l2d (p1.toInt64 + ((2 : Int32).toInt64 * ((p2 &&& (255 : Int32)).toInt64 + (1 : Int64)))))), .second] [.double (FP.l2d (p1.toInt64 + ((2 : Int64) * ((p2 &&& (255 : Int32)).toInt64 + (1 : Int64)))))]))
            refine g_dload W72 at_199 (pc' := 201) rfl rfl ?_
            refine g_dcmp W72 at_201 (pc' := 202) rfl rfl ?_
            rw [show (cmpValue (FP.dcmp (FP.l2d (p1.toInt64 + ((2 : Int64) * ((p2 &&& (255 : Int32)).toInt64 + (1 : Int64))))) (FP.l2d (p1.toInt64 + ((2 : Int32).toInt64 * ((p2 &&& (255 : Int32)).toInt64 + (1 : Int64)))))) .l) = (0 : Int32) from dcmpV_eq (by rw [show (2 : Int32).toInt64 = (2 : Int64) from by decide]) (l2d_fin _).noNaN .l]
            refine g_if W72 at_202 (pcy := 209) (by decide) (pc' := 205) rfl (fun (h : ¬ (0 : Int32) = (0 : Int32)) => absurd h (by decide)) (fun _ => ?_)
            refine g_iconst W72 at_205 (pc' := 206) rfl (v := (1 : Int32)) (by decide) ?_
            refine g_goto W72 at_206 (pc' := 210) (by decide) ?_
            exact g_zreturn W72 (by decide) at_210 rfl (by decide) (by decide)
          · subst hk
            refine g_iloadN WJJ at_178 (pc' := 179) rfl rfl ?_
            refine g_i2l WJJ at_179 (pc' := 180) rfl rfl ?_
            refine g_iload WJJ at_180 (pc' := 182) rfl rfl ?_
            refine g_iconst WJJ at_182 (pc' := 183) rfl (v := (1 : Int32)) (by decide) ?_
            refine g_iadd WJJ at_183 (pc' := 184) rfl (v := (3 : Int32)) (by decide) ?_
            refine g_i2l WJJ at_184 (pc' := 185) rfl rfl ?_
            refine g_lload WJJ at_185 (pc' := 187) rfl rfl ?_
            refine g_lmul WJJ at_187 (pc' := 188) rfl rfl ?_
            refine g_ladd WJJ at_188 (pc' := 189) rfl rfl ?_
            refine g_l2d WJJ at_189 (pc' := 190) rfl rfl ?_
            refine g_dstore WJJ at_190 (pc' := 192) rfl (ls' := #[.val (.int p0), .val (.int p1), .val (.int p2), .val (.int p3), .val (.int p4), .val (.int (3 : Int32)), .val (.long ((p2 &&& (255 : Int32)).toInt64 + (1 : Int64))), .second, .val (.ref a55), .val (.ref a56), .val (.double (FP.i2d p1)), .second, .val (.double (FP.l2d (p1.toInt64 + ((4 : Int64) * ((p2 &&& (255 : Int32)).toInt64 + (1 : Int64)))))), .second, .val (.ref a63), .val (.int (2 : Int32)), .val (.double (FP.l2d (p1.toInt64 + ((3 : Int32).toInt64 * ((p2 &&& (255 : Int32)).toInt64 + (1 : Int64)))))), .second]) rfl ?_
            refine g_aload WJJ at_192 (pc' := 194) rfl rfl rfl ?_
            refine g_iload WJJ at_194 (pc' := 196) rfl rfl ?_
            have H73f : Hp Z n0 TJJ.heap [(a55, ArC Z .double [.double (FP.l2d (p1.toInt64 + ((p2 &&& (255 : Int32)).toInt64 + (1 : Int64)))), .double (FP.l2d (p1.toInt64 + ((2 : Int64) * ((p2 &&& (255 : Int32)).toInt64 + (1 : Int64))))), .double (FP.l2d (p1.toInt64 + ((3 : Int64) * ((p2 &&& (255 : Int32)).toInt64 + (1 : Int64)))))]), (a63, ObC Z "com/example/dipper/dipper/Centroids" [("com/example/dipper/dipper/Centroids", "means", "[D", .ref a55), ("com/example/dipper/dipper/Centroids", "weights", "[J", .ref a56), ("com/example/dipper/dipper/Centroids", "count", "J", .long (3 : Int32).toInt64), ("com/example/dipper/dipper/Centroids", "min", "D", .double (FP.i2d p1)), ("com/example/dipper/dipper/Centroids", "max", "D", .double (FP.l2d (p1.toInt64 + ((4 : Int64) * ((p2 &&& (255 : Int32)).toInt64 + (1 : Int64))))))]), (a56, ArC Z .long [.long (1 : Int64), .long (1 : Int64), .long (1 : Int64)])] := HJJ.front (i := 2) rfl rfl
            have H74f : Hp Z n0 TJJ.heap [(a63, ObC Z "com/example/dipper/dipper/Centroids" [("com/example/dipper/dipper/Centroids", "means", "[D", .ref a55), ("com/example/dipper/dipper/Centroids", "weights", "[J", .ref a56), ("com/example/dipper/dipper/Centroids", "count", "J", .long (3 : Int32).toInt64), ("com/example/dipper/dipper/Centroids", "min", "D", .double (FP.i2d p1)), ("com/example/dipper/dipper/Centroids", "max", "D", .double (FP.l2d (p1.toInt64 + ((4 : Int64) * ((p2 &&& (255 : Int32)).toInt64 + (1 : Int64))))))]), (a55, ArC Z .double [.double (FP.l2d (p1.toInt64 + ((p2 &&& (255 : Int32)).toInt64 + (1 : Int64)))), .double (FP.l2d (p1.toInt64 + ((2 : Int64) * ((p2 &&& (255 : Int32)).toInt64 + (1 : Int64))))), .double (FP.l2d (p1.toInt64 + ((3 : Int64) * ((p2 &&& (255 : Int32)).toInt64 + (1 : Int64)))))]), (a56, ArC Z .long [.long (1 : Int64), .long (1 : Int64), .long (1 : Int64)])] := H73f.front (i := 1) rfl rfl
            refine g_callV WJJ (argsL := [.int (2 : Int32)]) (st := []) (wd_22 hw) (wd_23 hw) (wd_25 hw) (wd_24 hw) (wd_5 hw) (wd_26 hw) (by decide) (a := a63) H74f (i := 0) rfl (c_mean l Z a0 hw n0 a63 a55 a56 (3 : Int32).toInt64 (FP.i2d p1) (FP.l2d (p1.toInt64 + ((4 : Int64) * ((p2 &&& (255 : Int32)).toInt64 + (1 : Int64))))) [.double (FP.l2d (p1.toInt64 + ((p2 &&& (255 : Int32)).toInt64 + (1 : Int64)))), .double (FP.l2d (p1.toInt64 + ((2 : Int64) * ((p2 &&& (255 : Int32)).toInt64 + (1 : Int64))))), .double (FP.l2d (p1.toInt64 + ((3 : Int64) * ((p2 &&& (255 : Int32)).toInt64 + (1 : Int64)))))] (3 : Int32) (2 : Int32) (FP.l2d (p1.toInt64 + ((3 : Int64) * ((p2 &&& (255 : Int32)).toInt64 + (1 : Int64))))) rfl ⟨fun q => absurd q (by decide), fun _ q => absurd (by decide) q, fun _ _ => ⟨2, by decide, rfl⟩⟩ _ _ H74f) pd_1 rfl rfl rfl at_196 (pc' := 199) rfl (by decide) (Wn := 0) (Nat.le_of_eq rfl) (by decide) (kc' := 3) (ks' := 11) rfl rfl (by decide) (by decide) ?_
            intro T75 v75 W75 hp75
            obtain ⟨rfl, H75⟩ := hp75
            show Goes p e below _ (T75.setTop (mkF m 199 #[.val (.int p0), .val (.int p1), .val (.int p2), .val (.int p3), .val (.int p4), .val (.int (3 : Int32)), .val (.long ((p2 &&& (255 : Int32)).toInt64 + (1 : Int64))), .second, .val (.ref a55), .val (.ref a56), .val (.double (FP.i2d p1)), .second, .val (.double (FP.l2d (p1.toInt64 + ((4 : Int64) * ((p2 &&& (255 : Int32)).toInt64 + (1 : Int64)))))), .second, .val (.ref a63), .val (.int (2 : Int32)), .val (.double (FP.l2d (p1.toInt64 + ((3 : Int32).toInt64 * ((p2 &&& (255 : Int32)).toInt64 + (1 : Int64)))))), .second] [.double (FP.l2d (p1.toInt64 + ((3 : Int64) * ((p2 &&& (255 : Int32)).toInt64 + (1 : Int64)))))]))
            refine g_dload W75 at_199 (pc' := 201) rfl rfl ?_
            refine g_dcmp W75 at_201 (pc' := 202) rfl rfl ?_
            rw [show (cmpValue (FP.dcmp (FP.l2d (p1.toInt64 + ((3 : Int64) * ((p2 &&& (255 : Int32)).toInt64 + (1 : Int64))))) (FP.l2d (p1.toInt64 + ((3 : Int32).toInt64 * ((p2 &&& (255 : Int32)).toInt64 + (1 : Int64)))))) .l) = (0 : Int32) from dcmpV_eq (by rw [show (3 : Int32).toInt64 = (3 : Int64) from by decide]) (l2d_fin _).noNaN .l]
            refine g_if W75 at_202 (pcy := 209) (by decide) (pc' := 205) rfl (fun (h : ¬ (0 : Int32) = (0 : Int32)) => absurd h (by decide)) (fun _ => ?_)
            refine g_iconst W75 at_205 (pc' := 206) rfl (v := (1 : Int32)) (by decide) ?_
            refine g_goto W75 at_206 (pc' := 210) (by decide) ?_
            exact g_zreturn W75 (by decide) at_210 rfl (by decide) (by decide)
        · refine g_dload WJJ at_171 (pc' := 173) rfl rfl ?_
          refine g_dstore WJJ at_173 (pc' := 175) rfl (ls' := #[.val (.int p0), .val (.int p1), .val (.int p2), .val (.int p3), .val (.int p4), .val (.int (3 : Int32)), .val (.long ((p2 &&& (255 : Int32)).toInt64 + (1 : Int64))), .second, .val (.ref a55), .val (.ref a56), .val (.double (FP.i2d p1)), .second, .val (.double (FP.l2d (p1.toInt64 + ((4 : Int64) * ((p2 &&& (255 : Int32)).toInt64 + (1 : Int64)))))), .second, .val (.ref a63), .val (.int j), .val (.double (FP.l2d (p1.toInt64 + ((4 : Int64) * ((p2 &&& (255 : Int32)).toInt64 + (1 : Int64)))))), .second]) rfl ?_
          refine g_goto WJJ at_175 (pc' := 192) (by decide) ?_
          refine g_aload WJJ at_192 (pc' := 194) rfl rfl rfl ?_
          refine g_iload WJJ at_194 (pc' := 196) rfl rfl ?_
          have H76f : Hp Z n0 TJJ.heap [(a55, ArC Z .double [.double (FP.l2d (p1.toInt64 + ((p2 &&& (255 : Int32)).toInt64 + (1 : Int64)))), .double (FP.l2d (p1.toInt64 + ((2 : Int64) * ((p2 &&& (255 : Int32)).toInt64 + (1 : Int64))))), .double (FP.l2d (p1.toInt64 + ((3 : Int64) * ((p2 &&& (255 : Int32)).toInt64 + (1 : Int64)))))]), (a63, ObC Z "com/example/dipper/dipper/Centroids" [("com/example/dipper/dipper/Centroids", "means", "[D", .ref a55), ("com/example/dipper/dipper/Centroids", "weights", "[J", .ref a56), ("com/example/dipper/dipper/Centroids", "count", "J", .long (3 : Int32).toInt64), ("com/example/dipper/dipper/Centroids", "min", "D", .double (FP.i2d p1)), ("com/example/dipper/dipper/Centroids", "max", "D", .double (FP.l2d (p1.toInt64 + ((4 : Int64) * ((p2 &&& (255 : Int32)).toInt64 + (1 : Int64))))))]), (a56, ArC Z .long [.long (1 : Int64), .long (1 : Int64), .long (1 : Int64)])] := HJJ.front (i := 2) rfl rfl
          have H77f : Hp Z n0 TJJ.heap [(a63, ObC Z "com/example/dipper/dipper/Centroids" [("com/example/dipper/dipper/Centroids", "means", "[D", .ref a55), ("com/example/dipper/dipper/Centroids", "weights", "[J", .ref a56), ("com/example/dipper/dipper/Centroids", "count", "J", .long (3 : Int32).toInt64), ("com/example/dipper/dipper/Centroids", "min", "D", .double (FP.i2d p1)), ("com/example/dipper/dipper/Centroids", "max", "D", .double (FP.l2d (p1.toInt64 + ((4 : Int64) * ((p2 &&& (255 : Int32)).toInt64 + (1 : Int64))))))]), (a55, ArC Z .double [.double (FP.l2d (p1.toInt64 + ((p2 &&& (255 : Int32)).toInt64 + (1 : Int64)))), .double (FP.l2d (p1.toInt64 + ((2 : Int64) * ((p2 &&& (255 : Int32)).toInt64 + (1 : Int64))))), .double (FP.l2d (p1.toInt64 + ((3 : Int64) * ((p2 &&& (255 : Int32)).toInt64 + (1 : Int64)))))]), (a56, ArC Z .long [.long (1 : Int64), .long (1 : Int64), .long (1 : Int64)])] := H76f.front (i := 1) rfl rfl
          refine g_callV WJJ (argsL := [.int j]) (st := []) (wd_22 hw) (wd_23 hw) (wd_25 hw) (wd_24 hw) (wd_5 hw) (wd_26 hw) (by decide) (a := a63) H77f (i := 0) rfl (c_mean l Z a0 hw n0 a63 a55 a56 (3 : Int32).toInt64 (FP.i2d p1) (FP.l2d (p1.toInt64 + ((4 : Int64) * ((p2 &&& (255 : Int32)).toInt64 + (1 : Int64))))) [.double (FP.l2d (p1.toInt64 + ((p2 &&& (255 : Int32)).toInt64 + (1 : Int64)))), .double (FP.l2d (p1.toInt64 + ((2 : Int64) * ((p2 &&& (255 : Int32)).toInt64 + (1 : Int64))))), .double (FP.l2d (p1.toInt64 + ((3 : Int64) * ((p2 &&& (255 : Int32)).toInt64 + (1 : Int64)))))] (3 : Int32) j (FP.l2d (p1.toInt64 + ((4 : Int64) * ((p2 &&& (255 : Int32)).toInt64 + (1 : Int64))))) rfl ⟨fun q => absurd q c65, fun _ _ => rfl, fun _ q => absurd q c66⟩ _ _ H77f) pd_1 rfl rfl rfl at_196 (pc' := 199) rfl (by decide) (Wn := 0) (Nat.le_of_eq rfl) (by decide) (kc' := 3) (ks' := 11) rfl rfl (by decide) (by decide) ?_
          intro T78 v78 W78 hp78
          obtain ⟨rfl, H78⟩ := hp78
          show Goes p e below _ (T78.setTop (mkF m 199 #[.val (.int p0), .val (.int p1), .val (.int p2), .val (.int p3), .val (.int p4), .val (.int (3 : Int32)), .val (.long ((p2 &&& (255 : Int32)).toInt64 + (1 : Int64))), .second, .val (.ref a55), .val (.ref a56), .val (.double (FP.i2d p1)), .second, .val (.double (FP.l2d (p1.toInt64 + ((4 : Int64) * ((p2 &&& (255 : Int32)).toInt64 + (1 : Int64)))))), .second, .val (.ref a63), .val (.int j), .val (.double (FP.l2d (p1.toInt64 + ((4 : Int64) * ((p2 &&& (255 : Int32)).toInt64 + (1 : Int64)))))), .second] [.double (FP.l2d (p1.toInt64 + ((4 : Int64) * ((p2 &&& (255 : Int32)).toInt64 + (1 : Int64)))))]))
          refine g_dload W78 at_199 (pc' := 201) rfl rfl ?_
          refine g_dcmp W78 at_201 (pc' := 202) rfl rfl ?_
          rw [show (cmpValue (FP.dcmp (FP.l2d (p1.toInt64 + ((4 : Int64) * ((p2 &&& (255 : Int32)).toInt64 + (1 : Int64))))) (FP.l2d (p1.toInt64 + ((4 : Int64) * ((p2 &&& (255 : Int32)).toInt64 + (1 : Int64)))))) .l) = (0 : Int32) from dcmpV_eq rfl (l2d_fin _).noNaN .l]
          refine g_if W78 at_202 (pcy := 209) (by decide) (pc' := 205) rfl (fun (h : ¬ (0 : Int32) = (0 : Int32)) => absurd h (by decide)) (fun _ => ?_)
          refine g_iconst W78 at_205 (pc' := 206) rfl (v := (1 : Int32)) (by decide) ?_
          refine g_goto W78 at_206 (pc' := 210) (by decide) ?_
          exact g_zreturn W78 (by decide) at_210 rfl (by decide) (by decide)
      · replace c65 := Classical.not_not.mp c65
        refine g_dload WJJ at_157 (pc' := 159) rfl rfl ?_
        refine g_dstore WJJ at_159 (pc' := 161) rfl (ls' := #[.val (.int p0), .val (.int p1), .val (.int p2), .val (.int p3), .val (.int p4), .val (.int (3 : Int32)), .val (.long ((p2 &&& (255 : Int32)).toInt64 + (1 : Int64))), .second, .val (.ref a55), .val (.ref a56), .val (.double (FP.i2d p1)), .second, .val (.double (FP.l2d (p1.toInt64 + ((4 : Int64) * ((p2 &&& (255 : Int32)).toInt64 + (1 : Int64)))))), .second, .val (.ref a63), .val (.int j), .val (.double (FP.i2d p1)), .second]) rfl ?_
        refine g_goto WJJ at_161 (pc' := 192) (by decide) ?_
        refine g_aload WJJ at_192 (pc' := 194) rfl rfl rfl ?_
        refine g_iload WJJ at_194 (pc' := 196) rfl rfl ?_
        have H79f : Hp Z n0 TJJ.heap [(a55, ArC Z .double [.double (FP.l2d (p1.toInt64 + ((p2 &&& (255 : Int32)).toInt64 + (1 : Int64)))), .double (FP.l2d (p1.toInt64 + ((2 : Int64) * ((p2 &&& (255 : Int32)).toInt64 + (1 : Int64))))), .double (FP.l2d (p1.toInt64 + ((3 : Int64) * ((p2 &&& (255 : Int32)).toInt64 + (1 : Int64)))))]), (a63, ObC Z "com/example/dipper/dipper/Centroids" [("com/example/dipper/dipper/Centroids", "means", "[D", .ref a55), ("com/example/dipper/dipper/Centroids", "weights", "[J", .ref a56), ("com/example/dipper/dipper/Centroids", "count", "J", .long (3 : Int32).toInt64), ("com/example/dipper/dipper/Centroids", "min", "D", .double (FP.i2d p1)), ("com/example/dipper/dipper/Centroids", "max", "D", .double (FP.l2d (p1.toInt64 + ((4 : Int64) * ((p2 &&& (255 : Int32)).toInt64 + (1 : Int64))))))]), (a56, ArC Z .long [.long (1 : Int64), .long (1 : Int64), .long (1 : Int64)])] := HJJ.front (i := 2) rfl rfl
        have H80f : Hp Z n0 TJJ.heap [(a63, ObC Z "com/example/dipper/dipper/Centroids" [("com/example/dipper/dipper/Centroids", "means", "[D", .ref a55), ("com/example/dipper/dipper/Centroids", "weights", "[J", .ref a56), ("com/example/dipper/dipper/Centroids", "count", "J", .long (3 : Int32).toInt64), ("com/example/dipper/dipper/Centroids", "min", "D", .double (FP.i2d p1)), ("com/example/dipper/dipper/Centroids", "max", "D", .double (FP.l2d (p1.toInt64 + ((4 : Int64) * ((p2 &&& (255 : Int32)).toInt64 + (1 : Int64))))))]), (a55, ArC Z .double [.double (FP.l2d (p1.toInt64 + ((p2 &&& (255 : Int32)).toInt64 + (1 : Int64)))), .double (FP.l2d (p1.toInt64 + ((2 : Int64) * ((p2 &&& (255 : Int32)).toInt64 + (1 : Int64))))), .double (FP.l2d (p1.toInt64 + ((3 : Int64) * ((p2 &&& (255 : Int32)).toInt64 + (1 : Int64)))))]), (a56, ArC Z .long [.long (1 : Int64), .long (1 : Int64), .long (1 : Int64)])] := H79f.front (i := 1) rfl rfl
        refine g_callV WJJ (argsL := [.int j]) (st := []) (wd_22 hw) (wd_23 hw) (wd_25 hw) (wd_24 hw) (wd_5 hw) (wd_26 hw) (by decide) (a := a63) H80f (i := 0) rfl (c_mean l Z a0 hw n0 a63 a55 a56 (3 : Int32).toInt64 (FP.i2d p1) (FP.l2d (p1.toInt64 + ((4 : Int64) * ((p2 &&& (255 : Int32)).toInt64 + (1 : Int64))))) [.double (FP.l2d (p1.toInt64 + ((p2 &&& (255 : Int32)).toInt64 + (1 : Int64)))), .double (FP.l2d (p1.toInt64 + ((2 : Int64) * ((p2 &&& (255 : Int32)).toInt64 + (1 : Int64))))), .double (FP.l2d (p1.toInt64 + ((3 : Int64) * ((p2 &&& (255 : Int32)).toInt64 + (1 : Int64)))))] (3 : Int32) j (FP.i2d p1) rfl ⟨fun _ => rfl, fun q => absurd c65 q, fun q => absurd c65 q⟩ _ _ H80f) pd_1 rfl rfl rfl at_196 (pc' := 199) rfl (by decide) (Wn := 0) (Nat.le_of_eq rfl) (by decide) (kc' := 3) (ks' := 11) rfl rfl (by decide) (by decide) ?_
        intro T81 v81 W81 hp81
        obtain ⟨rfl, H81⟩ := hp81
        show Goes p e below _ (T81.setTop (mkF m 199 #[.val (.int p0), .val (.int p1), .val (.int p2), .val (.int p3), .val (.int p4), .val (.int (3 : Int32)), .val (.long ((p2 &&& (255 : Int32)).toInt64 + (1 : Int64))), .second, .val (.ref a55), .val (.ref a56), .val (.double (FP.i2d p1)), .second, .val (.double (FP.l2d (p1.toInt64 + ((4 : Int64) * ((p2 &&& (255 : Int32)).toInt64 + (1 : Int64)))))), .second, .val (.ref a63), .val (.int j), .val (.double (FP.i2d p1)), .second] [.double (FP.i2d p1)]))
        refine g_dload W81 at_199 (pc' := 201) rfl rfl ?_
        refine g_dcmp W81 at_201 (pc' := 202) rfl rfl ?_
        rw [show (cmpValue (FP.dcmp (FP.i2d p1) (FP.i2d p1)) .l) = (0 : Int32) from dcmpV_eq rfl (i2d_fin _).noNaN .l]
        refine g_if W81 at_202 (pcy := 209) (by decide) (pc' := 205) rfl (fun (h : ¬ (0 : Int32) = (0 : Int32)) => absurd h (by decide)) (fun _ => ?_)
        refine g_iconst W81 at_205 (pc' := 206) rfl (v := (1 : Int32)) (by decide) ?_
        refine g_goto W81 at_206 (pc' := 210) (by decide) ?_
        exact g_zreturn W81 (by decide) at_210 rfl (by decide) (by decide)
    refine g_if W64 at_137 (pcy := 144) (by decide) (pc' := 140) rfl (fun (c82 : (p4 &&& (1 : Int32)) = (0 : Int32)) => ?_) (fun (c82 : ¬ (p4 &&& (1 : Int32)) = (0 : Int32)) => ?_)
    · refine g_iloadN W64 at_144 (pc' := 145) rfl rfl ?_
      refine g_bipush W64 at_145 (pc' := 147) rfl (v := (6 : Int32)) (by decide) ?_
      refine g_irem W64 at_147 (pc' := 148) rfl (by decide) rfl ?_
      refine g_iconst W64 at_148 (pc' := 149) rfl (v := (1 : Int32)) (by decide) ?_
      refine g_isub W64 at_149 (pc' := 150) rfl rfl ?_
      exact J _ _ W64 H64
    · refine g_iloadN W64 at_140 (pc' := 141) rfl rfl ?_
      refine g_goto W64 at_141 (pc' := 150) (by decide) ?_
      exact J _ _ W64 H64
set_option maxRecDepth 65536 in
set_option maxHeartbeats 40000000 in
theorem comes_1 {Post : Tables → Env → Array Value → State → Outcome → State → Prop} (hpost : ∀ tb e args s v u, (limb_1_1.after args s (.returned v) u = true ∧ limb_1_2.after args s (.returned v) u = true ∧ True) → FrameEnd s (.returned v) u (Jvm.fieldLocs frame_1_writes args s ++ Jvm.arrayLocs frame_1_arrays args s ++ Jvm.staticLocs frame_1_statics s) 16 128 → Post tb e args s (.returned v) u) :
    ArmFor flags0 classFile x code maxLocals ret World_1 tables_1 room_1 Calls_1 rest_1 Pre_1 Post := by
  intro l hfl _ _ p e ha hc hk s m args below hf hA hF happ hP
  obtain ⟨hcalls, hrest, hpre⟩ := hP
  obtain ⟨-, -, -, hnamed, -, -, -, hat⟩ := (Spec.applies_iff hf).mp happ
  obtain ⟨hg, hn⟩ := and_e (Cond.before_iff.mp (show (Jvm.Cond.and given_1 narrow_1).before args s = true from hpre))
  obtain ⟨hcount, hg0⟩ := and_e hg
  obtain ⟨ha0, hg1⟩ := and_e hg0
  obtain ⟨ha1, hg2⟩ := and_e hg1
  obtain ⟨ha2, hg3⟩ := and_e hg2
  obtain ⟨ha3, hg4⟩ := and_e hg3
  obtain ⟨w0, w1, w2, w3, w4, rfl⟩ : ∃ w0 w1 w2 w3 w4 : Value, args = #[w0, w1, w2, w3, w4] := by
    have hs : args.size = 5 := by simpa [Cond.value, given_1] using hcount
    obtain ⟨L⟩ := args
    match L, hs with
    | [w0, w1, w2, w3, w4], _ => exact ⟨w0, w1, w2, w3, w4, rfl⟩
  have hw := fun d (hd : d ∈ tables_1) => atoms_spec (ws := Jvm.Cond.code x code maxLocals ret :: tables_1) hat d (List.mem_cons_of_mem _ hd)
  obtain ⟨p0, e0⟩ := is_v ha0
  obtain rfl : w0 = (.int p0) := Option.some.inj e0
  obtain ⟨p1, e1⟩ := is_v ha1
  obtain rfl : w1 = (.int p1) := Option.some.inj e1
  obtain ⟨p2, e2⟩ := is_v ha2
  obtain rfl : w2 = (.int p2) := Option.some.inj e2
  obtain ⟨p3, e3⟩ := is_v ha3
  obtain rfl : w3 = (.int p3) := Option.some.inj e3
  obtain ⟨p4, e4⟩ := is_v hg4
  obtain rfl : w4 = (.int p4) := Option.some.inj e4
  obtain ⟨n, o, h1, h2, h3, _, L, rfl, ⟨N, rfl⟩, hq⟩ := law_con l s _ hw s.heap.size p0 p1 p2 p3 p4 s.heap (Hp.nil Bs.start) p e ha hc hk s m _ below hf ((Spec.applies_iff_loose hf).mp happ).1 ⟨rfl, State.Warmed39.refl s, rfl⟩ trivial
  refine ⟨n, _, h1, h2, h3, hpost _ _ _ _ _ _ ⟨Cond.after_iff.mpr rfl, Cond.after_iff.mpr (eq_i res_at (Term.int_eval (1)) rfl), trivial⟩ ⟨hq.1, hq.2.1, (hq.2.2.sift fun y hy => Or.inr (N y hy)).mono (by decide) (by decide)⟩⟩
theorem main_1_1 : Claimed_1_1 := comes_1 fun _ _ _ _ _ _ h hF => ⟨h.1, hF⟩
theorem main_1_2 : Claimed_1_2 := comes_1 fun _ _ _ _ _ _ h hF => ⟨h.2.1, hF⟩
end Jvm.Pilot.@@N@@
namespace Jvm.Pilot.@@N@@
open Jvm Jvm.ClassFile Sem Op Lib Jvm.Free Jvm.Stand Jvm.Pilot.@@N@@.Jvm.D
/-! MADE BY PROGRAM (witnessworld.py) out of the Statement's table words and the real class files: 13 classes; the members and pool entries that the words name. The judged class is class 1, her method 1. -/
namespace start1
open Jvm.ClassFile
def u (s : String) : CpInfo := .utf8 (stringToUtf16 s)
/-- a pool by its gaps: so many unusable entries, then the entry; so many at the end -/
def gap : Nat → List CpInfo → List CpInfo
  | 0, r => r
  | n + 1, r => .unusable :: gap n r
def poolList (es : List (Nat × CpInfo)) (last : Nat) : List CpInfo := es.foldr (fun e r => gap e.1 (e.2 :: r)) (gap last [])
def pool (es : List (Nat × CpInfo)) (last : Nat) : Array CpInfo := ⟨poolList es last⟩
def fileOf (pool : Array CpInfo) (this : Nat) (attrs : Array Attribute := #[]) (ms : Array MethodInfo := #[]) (fl : Nat := 33) (sup : Nat := 0) (ifs : Array Nat := #[]) (fds : Array FieldInfo := #[]) : ClassFile where
  minorVersion := 0
  majorVersion := 65
  constantPool := pool
  accessFlags := fl
  thisClass := this
  superClass := sup
  interfaces := ifs
  fields := fds
  methods := ms
  attributes := attrs
def plain (name : String) (sup : Option ClassId) : Class where
  name := name
  kind := .ordinary
  loader := none
  accessFlags := 33
  super := sup
  interfaces := #[]
  cf := none
  fields := #[]
  methods := #[]
  instanceTypes := #[]
  staticTypes := #[]
  resolved := #[]
  callSites := []
  init := .initialized
  statics := none
  mirror := none

def pool0 : Array CpInfo := pool [(5, u "<init>"), (0, u "()V"), (1, .class_ 10), (1, u "java/lang/Object")] 113

def k0c0 : Code := { maxStack := 0, maxLocals := 1, code := object_method_1_code, exceptionTable := #[], attributes := #[] }
def k0m0 : Method := { name := "<init>", desc := "()V", sig := { parameters := [], returnType := none }, accessFlags := 1, code := some k0c0 }
/-- java/lang/Object -/
def k0 : Class := { plain "java/lang/Object" none with
  accessFlags := 33
  interfaces := #[]
  cf := some (fileOf pool0 8 #[] #[{ accessFlags := 1, nameIndex := 5, descriptorIndex := 6, attributes := #[] }] 33 0 #[] #[])
  fields := #[]
  methods := #[k0m0]
  instanceTypes := #[]
  staticTypes := #[]
  resolved := Array.replicate 124 none
  statics := none }

def pool1 : Array CpInfo := pool [(2, .class_ 4), (1, u "java/lang/Object"), (0, u "<init>"), (0, u "()V"), (0, .long 2), (1, .long 3), (1, .long 4), (1, .class_ 14), (0, u "com/example/dipper/dipper/Centroids"), (0, .methodref 13 16), (0, .nameAndType 5 17), (0, u "([D[JJDD)V"), (0, .methodref 13 19), (0, .nameAndType 20 21), (0, u "meanAt"), (0, u "(I)D"), (0, .class_ 23), (0, u "com/example/dipper/dipper/CentroidsMeanAtPinLaw"), (2, u "law"), (0, u "(IIIII)Z")] 7

def k1m0 : Method := { name := "<init>", desc := "()V", sig := { parameters := [], returnType := none }, accessFlags := 1, code := none }
def k1c1 : Code := { maxStack := 10, maxLocals := 18, code := code, exceptionTable := #[], attributes := #[] }
def k1m1 : Method := { name := "law", desc := "(IIIII)Z", sig := { parameters := [.int, .int, .int, .int, .int], returnType := some .boolean }, accessFlags := 9, code := some k1c1 }
/-- com/example/dipper/dipper/CentroidsMeanAtPinLaw -/
def k1 : Class := { plain "com/example/dipper/dipper/CentroidsMeanAtPinLaw" (some 0) with
  accessFlags := 49
  interfaces := #[]
  cf := some (fileOf pool1 22 #[] #[{ accessFlags := 1, nameIndex := 5, descriptorIndex := 6, attributes := #[] }, { accessFlags := 9, nameIndex := 26, descriptorIndex := 27, attributes := #[] }] 49 2 #[] #[])
  fields := #[]
  methods := #[k1m0, k1m1]
  instanceTypes := #[]
  staticTypes := #[]
  resolved := Array.replicate 35 none
  statics := none }

def pool2 : Array CpInfo := pool [(1, .class_ 2), (0, u "com/example/dipper/dipper/Centroids"), (0, .methodref 4 5), (0, .class_ 6), (0, .nameAndType 7 8), (0, u "java/lang/Object"), (0, u "<init>"), (0, u "()V"), (0, .fieldref 1 10), (0, .nameAndType 11 12), (0, u "means"), (0, u "[D"), (0, .fieldref 1 14), (0, .nameAndType 15 16), (0, u "weights"), (0, u "[J"), (0, .fieldref 1 18), (0, .nameAndType 19 20), (0, u "count"), (0, u "J"), (0, .fieldref 1 22), (0, .nameAndType 23 24), (0, u "min"), (0, u "D"), (0, .fieldref 1 26), (0, .nameAndType 27 24), (0, u "max"), (42, .class_ 72), (1, u "com/example/dipper/dipper/Centroids$TwoValues"), (27, u "(I)D"), (18, u "meanAt"), (12, u "HUG_REACH"), (0, u "I"), (2, u "HUG"), (0, u "SHAPE_REACH"), (1, u "([D[JJDD)V")] 18

def k2c0 : Code := { maxStack := 3, maxLocals := 9, code := prog_4_method_1_code, exceptionTable := #[], attributes := #[] }
def k2m0 : Method := { name := "<init>", desc := "([D[JJDD)V", sig := { parameters := [(.array .double), (.array .long), .long, .double, .double], returnType := none }, accessFlags := 0, code := some k2c0 }
def k2c1 : Code := { maxStack := 2, maxLocals := 2, code := prog_4_method_10_code, exceptionTable := #[], attributes := #[] }
def k2m1 : Method := { name := "meanAt", desc := "(I)D", sig := { parameters := [.int], returnType := some .double }, accessFlags := 0, code := some k2c1 }
/-- com/example/dipper/dipper/Centroids -/
def k2 : Class := { plain "com/example/dipper/dipper/Centroids" (some 0) with
  accessFlags := 48
  interfaces := #[]
  cf := some (fileOf pool2 1 #[.nestMembers #[70]] #[{ accessFlags := 0, nameIndex := 7, descriptorIndex := 139, attributes := #[] }, { accessFlags := 0, nameIndex := 119, descriptorIndex := 100, attributes := #[] }] 48 4 #[] #[{ accessFlags := 26, nameIndex := 132, descriptorIndex := 133, attributes := #[] }, { accessFlags := 26, nameIndex := 136, descriptorIndex := 24, attributes := #[] }, { accessFlags := 26, nameIndex := 137, descriptorIndex := 133, attributes := #[] }, { accessFlags := 18, nameIndex := 11, descriptorIndex := 12, attributes := #[] }, { accessFlags := 18, nameIndex := 15, descriptorIndex := 16, attributes := #[] }, { accessFlags := 18, nameIndex := 19, descriptorIndex := 20, attributes := #[] }, { accessFlags := 18, nameIndex := 23, descriptorIndex := 24, attributes := #[] }, { accessFlags := 18, nameIndex := 27, descriptorIndex := 24, attributes := #[] }])
  fields := #[{ name := "HUG_REACH", type := .int, accessFlags := 26, slot := 0, constantValue := 0 }, { name := "HUG", type := .double, accessFlags := 26, slot := 1, constantValue := 0 }, { name := "SHAPE_REACH", type := .int, accessFlags := 26, slot := 2, constantValue := 0 }, { name := "means", type := (.array .double), accessFlags := 18, slot := 0, constantValue := 0 }, { name := "weights", type := (.array .long), accessFlags := 18, slot := 1, constantValue := 0 }, { name := "count", type := .long, accessFlags := 18, slot := 2, constantValue := 0 }, { name := "min", type := .double, accessFlags := 18, slot := 3, constantValue := 0 }, { name := "max", type := .double, accessFlags := 18, slot := 4, constantValue := 0 }]
  methods := #[k2m0, k2m1]
  instanceTypes := #[(.array .double), (.array .long), .long, .double, .double]
  staticTypes := #[.int, .double, .int]
  resolved := Array.replicate 158 none
  statics := none }

def pool3 : Array CpInfo := pool [(1, u "java/lang/Cloneable"), (0, .class_ 1), (0, u "java/lang/Object"), (0, .class_ 3)] 3

/-- java/lang/Cloneable -/
def k3 : Class := { plain "java/lang/Cloneable" (some 0) with
  accessFlags := 1537
  interfaces := #[]
  cf := some (fileOf pool3 2 #[] #[] 1537 4 #[] #[])
  fields := #[]
  methods := #[]
  instanceTypes := #[]
  staticTypes := #[]
  resolved := Array.replicate 8 none
  statics := none }

def pool4 : Array CpInfo := pool [(1, u "java/io/Serializable"), (0, .class_ 1), (0, u "java/lang/Object"), (0, .class_ 3)] 3

/-- java/io/Serializable -/
def k4 : Class := { plain "java/io/Serializable" (some 0) with
  accessFlags := 1537
  interfaces := #[]
  cf := some (fileOf pool4 2 #[] #[] 1537 4 #[] #[])
  fields := #[]
  methods := #[]
  instanceTypes := #[]
  staticTypes := #[]
  resolved := Array.replicate 8 none
  statics := none }

/-- the primitive byte -/
def k5 : Class := { plain "byte" none with kind := .primitive 'B', accessFlags := 0x411 }
/-- [B -/
def k6 : Class := { plain "[B" (some 0) with kind := .array 5 .byte, interfaces := #[3, 4], accessFlags := 1041 }

/-- the primitive double -/
def k7 : Class := { plain "double" none with kind := .primitive 'D', accessFlags := 0x411 }
/-- [D -/
def k8 : Class := { plain "[D" (some 0) with kind := .array 7 .double, interfaces := #[3, 4], accessFlags := 1041 }

/-- the primitive int -/
def k9 : Class := { plain "int" none with kind := .primitive 'I', accessFlags := 0x411 }
/-- [I -/
def k10 : Class := { plain "[I" (some 0) with kind := .array 9 .int, interfaces := #[3, 4], accessFlags := 1041 }

/-- the primitive long -/
def k11 : Class := { plain "long" none with kind := .primitive 'J', accessFlags := 0x411 }
/-- [J -/
def k12 : Class := { plain "[J" (some 0) with kind := .array 11 .long, interfaces := #[3, 4], accessFlags := 1041 }

def heap : Heap := #[]
def classes : Array Class := #[k0, k1, k2, k3, k4, k5, k6, k7, k8, k9, k10, k11, k12]
def interned : List (Array UInt16 × Addr) := []
def slotsUsed : Nat := 0
def theMethod : MethodId := ⟨1, 1⟩
def args0 : Array Value := #[.int 2, .int 1, .int 2, .int 3, .int 0]
def aboutOver (below : List Frame) : State where
  vm := { classes := classes, interned := interned.toArray }
  heap := heap
  slotsUsed := slotsUsed
  threads := #[{ frames := .invoking theMethod args0 :: below }]
def below0 : List Frame := [.native { method := ⟨0, 0⟩, args := #[] }]
def about1 : State := aboutOver below0
def p0 : Program := .bare "" "" ""
def e0 : Env := launch0.env 0 0 0
theorem w_frames : about1.frames = Frame.invoking theMethod args0 :: below0 := rfl
set_option maxRecDepth 65536 in
theorem w_args : argsFit about1.vm theMethod args0 = true := by decide +kernel
set_option maxRecDepth 65536 in
theorem w_heap : heapFits about1 = true := by decide +kernel
set_option maxRecDepth 65536 in
theorem w_runnable : about1.curStatus? = some .runnable := by decide +kernel
set_option maxRecDepth 65536 in
theorem w_alone : about1.alone = true := by decide +kernel
set_option maxRecDepth 65536 in
theorem w_named : about1.methodNamed? x = some theMethod := by decide +kernel
set_option maxRecDepth 65536 in
theorem w_hears : about1.hears theMethod below0 = true := by decide +kernel
set_option maxRecDepth 65536 in
theorem w_ripe : about1.ripe theMethod args0 below0 = true := by decide +kernel
theorem w_running : about1.status = .running := rfl
set_option maxRecDepth 65536 in
theorem w_room : about1.hasRoom e0.platform room_1 = true :=
  launch0.hasRoom_least _ room_1 (by decide +kernel) (by decide +kernel) (by decide +kernel) (by decide +kernel) (by decide +kernel) (by decide +kernel)
theorem allAtoms_all (ts : List Jvm.Cond) (a : Array Jvm.Value) (st : Jvm.State) : (allAtoms ts).before a st = ts.all (fun c => c.before a st) := by
  induction ts with
  | nil => rfl
  | cons c t ih =>
    show (Jvm.Cond.and c (allAtoms t)).before a st = _
    rw [Jvm.Cond.before_and, ih, List.all_cons]
def words1 : List Jvm.Cond := Jvm.Cond.code x code maxLocals ret :: tables_1
/-- a 'code' word, met by the world's own term for the bytes: nothing is compared byte by byte -/
theorem code_word {y : MethodName} {bytes : ByteArray} {mx : Nat} {rt : Option FieldType} {a : Array Value} {s : State} {m : MethodId} {meth : Method} {c : Code} (h1 : s.methodNamed? y = some m) (h2 : s.vm.method? m = some meth) (h3 : meth.code = some c) (h4 : c.code = bytes)
    (h5 : (c.maxLocals == mx && c.exceptionTable.isEmpty && decide (c.maxStack ≤ mostOperands) && decide (meth.sig.returnType = rt) && !meth.locks && decide (parseMethodDescriptor y.desc = some meth.sig)) = true) : (Jvm.Cond.code y bytes mx rt).before a s = true := by
  simp only [Bool.and_eq_true, beq_iff_eq, Bool.not_eq_true', decide_eq_true_eq] at h5
  obtain ⟨⟨⟨⟨⟨g1, g2⟩, g3⟩, g4⟩, g5⟩, g6⟩ := h5
  simp [Cond.before, Cond.holds, Cond.value, h1, h2, h3, h4, g1, g2, g3, g4, g5, g6]
def isCode : Jvm.Cond → Bool
  | .code _ _ _ _ => true
  | _ => false
theorem all_split {L : List Jvm.Cond} {P : Jvm.Cond → Bool} (h1 : L.all (fun c => isCode c || P c) = true) (h2 : ∀ c ∈ L.filter isCode, P c = true) : L.all P = true := by
  refine List.all_eq_true.mpr fun c hc => ?_
  have h := List.all_eq_true.mp h1 c hc
  rcases Bool.eq_false_or_eq_true (isCode c) with hi | hi
  · exact h2 c (List.mem_filter.mpr ⟨hc, hi⟩)
  · simpa [hi] using h
set_option maxRecDepth 65536 in
theorem w_c0 : (Jvm.Cond.code x code maxLocals ret).before args0 about1 = true := code_word (m := ⟨1, 1⟩) (meth := k1m1) (c := k1c1) (by decide +kernel) rfl rfl rfl (by decide +kernel)
set_option maxRecDepth 65536 in
theorem w_c1 : (Jvm.Cond.code ({ cls := "com/example/dipper/dipper/Centroids", name := "<init>", desc := "([D[JJDD)V" } : Jvm.MethodName) prog_4_method_1_code (9 : Nat) (Option.none : Option Jvm.ClassFile.FieldType)).before args0 about1 = true := code_word (m := ⟨2, 0⟩) (meth := k2m0) (c := k2c0) (by decide +kernel) rfl rfl rfl (by decide +kernel)
set_option maxRecDepth 65536 in
theorem w_c2 : (Jvm.Cond.code ({ cls := "java/lang/Object", name := "<init>", desc := "()V" } : Jvm.MethodName) object_method_1_code (1 : Nat) (Option.none : Option Jvm.ClassFile.FieldType)).before args0 about1 = true := code_word (m := ⟨0, 0⟩) (meth := k0m0) (c := k0c0) (by decide +kernel) rfl rfl rfl (by decide +kernel)
set_option maxRecDepth 65536 in
theorem w_c3 : (Jvm.Cond.code ({ cls := "com/example/dipper/dipper/Centroids", name := "meanAt", desc := "(I)D" } : Jvm.MethodName) prog_4_method_10_code (2 : Nat) (Option.some Jvm.ClassFile.FieldType.double)).before args0 about1 = true := code_word (m := ⟨2, 1⟩) (meth := k2m1) (c := k2c1) (by decide +kernel) rfl rfl rfl (by decide +kernel)
def codes1 : List Jvm.Cond := [Jvm.Cond.code x code maxLocals ret, Jvm.Cond.code ({ cls := "com/example/dipper/dipper/Centroids", name := "<init>", desc := "([D[JJDD)V" } : Jvm.MethodName) prog_4_method_1_code (9 : Nat) (Option.none : Option Jvm.ClassFile.FieldType), Jvm.Cond.code ({ cls := "java/lang/Object", name := "<init>", desc := "()V" } : Jvm.MethodName) object_method_1_code (1 : Nat) (Option.none : Option Jvm.ClassFile.FieldType), Jvm.Cond.code ({ cls := "com/example/dipper/dipper/Centroids", name := "meanAt", desc := "(I)D" } : Jvm.MethodName) prog_4_method_10_code (2 : Nat) (Option.some Jvm.ClassFile.FieldType.double)]
set_option maxRecDepth 65536 in
theorem codes_eq : words1.filter isCode = codes1 := rfl
theorem w_codes : ∀ c ∈ words1.filter isCode, c.before args0 about1 = true := by
  rw [codes_eq]
  intro c hc
  simp only [codes1, List.mem_cons, List.not_mem_nil, or_false] at hc
  rcases hc with rfl | rfl | rfl | rfl
  · exact w_c0
  · exact w_c1
  · exact w_c2
  · exact w_c3
set_option maxRecDepth 65536 in
theorem w_t1 : (words1.take 24).all (fun c => isCode c || c.before args0 about1) = true := by decide +kernel
set_option maxRecDepth 65536 in
theorem w_t2 : (words1.drop 24).all (fun c => isCode c || c.before args0 about1) = true := by decide +kernel
theorem w_tables : (allAtoms (Jvm.Cond.code x code maxLocals ret :: tables_1)).before args0 about1 = true := by
  rw [allAtoms_all]
  show words1.all (fun c => c.before args0 about1) = true
  refine all_split ?_ w_codes
  rw [← List.take_append_drop 24 words1, List.all_append, w_t1, w_t2]
  rfl
set_option maxRecDepth 65536 in
theorem w_case : (Jvm.Cond.and given_1 narrow_1).before args0 about1 = true := by decide +kernel
theorem w_applies : (headSpec (Jvm.Cond.code x code maxLocals ret :: tables_1) room_1).applies x e0.platform about1 = true :=
  (Spec.applies_iff w_frames).mpr ⟨w_running, w_runnable, w_alone, w_named, w_hears, w_ripe, w_room, w_tables⟩
theorem atStart : AtStart classFile x code maxLocals ret World_1 tables_1 room_1 Calls_1 rest_1 Pre_1 launch0 p0 e0 about1 theMethod args0 below0 :=
  ⟨lists_1, trivial, launch0.admits_env _ _ _, launch0.least_env, fairChoices_fair.cas, fairChoices_fair.clock, w_frames, w_args, w_heap, w_applies, trivial, trivial, w_case⟩
end start1
theorem witness_1 : WitnessClaimed_1 := ⟨start1.p0, start1.e0, start1.about1, start1.theMethod, start1.args0, start1.below0, start1.atStart⟩
end Jvm.Pilot.@@N@@
